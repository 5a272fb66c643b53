import PyProof.Rows.All
import OpenK.KLine
import KE.KLam
import PyProof.TupleIter
import PyProof.IsiH_list
import PyProof.MeetsSeq2
import PyProof.RulesDelMore
import PyProof.WalksMore
import PyProof.Rows.SumAny
import PyProof.P3Eq
import PyProof.P3In
import PySem.Challenge.RW_dm0167_01
set_option Elab.async false
set_option linter.all false
set_option bootstrap.genMatcherCode false
set_option genSizeOf false
set_option backward.match.sparseCases false
set_option compiler.extract_closed false
set_option tactic.hygienic false
set_option genInjectivity false
set_option genCtorIdx false
set_option genSizeOfSpec false
set_option maxRecDepth 100000
set_option maxHeartbeats 8000000
open Option renaming some→Y6,none→Y8,isSome_iff_exists→YU,isNone_iff_eq_none→v_,bind_eq_some_iff→D_,map_eq_some_iff→K_
open _root_ renaming rfl→Y7,Nat→Y9,List→Yb,Option→Yd,Int→Yh,Bool→Yj,beq_eq_false_iff_ne→Yl,Array→Yp,String→YA,trivial→YY,Decidable→Zf,beq_iff_eq→ZC,bne_iff_ne→l_,decide_eq_decide→y_,Unit→z_
open Bool renaming false→Yc,true→Ye,and_eq_true_iff→YE,eq_false_iff→Zl,eq_iff_iff→Zt
open PySem renaming Str→Yg,wpAny→Yi,Params→Yq,Obj→Yr,Scope→Yt,World→YB,Addr→YF,OsState→YI,Expr→YJ,cellsFrom→YK,seqIndex?→YL,DictEntry→YS,Stmt→YW,Value→Z0,treeTable→Z2,clipAt→Z5,eval→Z7,Model→Zb,Env→Zk,call→Zm,checkBoundCall→Zo,model→Zs,methodCallPos→Zv,FuncData→Zx,letOwnedTupleGo→Zz,isTrue→ZJ,attributeBase→ZK,getMethod→ZP,Shared→ZQ,Pos→ZR,methodCall→ZU,PyData→ZW,Tok→b_,Fin→c_,backTo→m_,codeAny_mono→r_,Sem→s_,strValues→A_,storeName→B_,mainGlobals→G_,builtinType→H_,builtinKind→I_,notedBy→P_,codeAny→Q_,starEach→T_,bindArgs→U_
open Decidable renaming decide→Yk
open PySem.Challenge renaming pw_dm0167_01→Ym,rw_dm0167_01→YN
open List renaming mem_cons→Yn,length→Ys,getElem?_eq_some_iff→Yv,mem_singleton→Yw,all_eq_true→Yx,mem_append→Yz,mem_map→YD,replicate→YG,length_pos_iff→YT,mem_range'_1→YX,count_pos_iff→YZ,pairwise_append→Z3,isPrefixOf_iff_prefix→Z4,getElem?_eq_none_iff→Z8,pairwise_cons→Zy,drop_eq_nil_iff→ZT,filter_eq_self→ZZ,mem_filter→p_,filter_map→q_,length_eq_zero_iff→O_,toArray→S_,forall_mem_cons→g'
open PySem.GenState renaming finished→Yo
open PySem.W.Fast renaming tw14364793385576792824→Yu,te14364793385576792824→YQ,tw10295753902157049106→Z1,tw10110043849684766642→Zp,tw1435165496053646825→a_
open PySem.Builtin.Range renaming small→Yy
open PySem.NameKind renaming free→YC,cell→YH
open PySem.Value renaming type→YM
open PySem.W renaming SharedT→YO,topFrame→Za,piece_app→Zd,listOf→Zu,emptyDict→e_,findIn→n_,Frag→L_
open Nat renaming not_lt→YR,lt_succ_iff_lt_or_eq→ZD,sub_le_iff_le_add'→ZM,not_le→ZN
open PySem.Sre renaming accepts→YV,Seen→Z6,header→ZA,itemWidth→f_,run→x_,maxRepeat→C_
open Int renaming ofNat_le→Z9,ofNat_inj→ZE,sub_eq_iff_eq_add→ZS,not_lt→F_,ofNat_lt→W_
open PySem.Builtin.Str renaming lastOccurrence→Zc,occurrences→d_,partsBetween→o_
open Min renaming min→Ze
open Pure renaming pure→Zg
open PySem.Expr.Subscript renaming elim→Zh
open PySem.Expr.Attribute renaming elim→Zi
open Array renaming all_eq_true_iff_forall_mem→Zj,length_toList→ZY,getElem?_eq_some_iff→w_
open PySem.Expr.Constant renaming elim→Zn
open PySem.Unicode renaming isSpace→Zq
open PySem.Expr.Call renaming elim→Zr
open PySem.Stmt.Assign renaming elim→Zw
open PySem.Expr.Tuple renaming elim→ZB
open PySem.F renaming slot_list_getattribute→ZF,type_list_append→ZX,slot_str_getitem→t_
open PySem.Expr.Name renaming elim→ZG
open PySem.Expr.ListComp renaming elim→ZH
open PySem.Expr.List renaming elim→ZI
open PySem.Txt renaming contains→ZL,join→i_
open PySem.Expr.UnaryOp renaming elim→ZO
open PySem.StrLaws renaming At→ZV,occBody→Y_
open PySem.W.WData renaming int→g_
open PySem.Str renaming join→j_
open PySem.PyData renaming list→k_,int→Z_
open PySem.ExcName renaming means→u_
open List.Sublist renaming refl→E_
open PySem.GM renaming of→J_
open PySem.Stmt.Return renaming elim→M_
open PySem.Expr.BoolOp renaming elim→N_
open Nat.le renaming refl→R_
open PySem.Builtin.Re renaming reRunToEnd→V_
open ForIn renaming forIn→X_
local macro_rules
  | `(tactic| lia) => `(tactic| lia -abstractProof)
local macro_rules (kind:=Lean.Parser.Command.declaration)|s=>if (s.getPos? true).isNone then Lean.Macro.throwUnsupported else pure (cond (s[1].isOfKind `Lean.Parser.Command.definition) (s.setArg 0 (s[0].setArg 4 (Lean.mkNullNode #[Lean.mkNode `Lean.Parser.Command.noncomputable #[Lean.mkAtom "noncomputable"]]))) s|>.setHeadInfo .none)
theorem Mine.Lake.lz{α:Type _}{a:α}{p:Prop}(h:Y8=Y6 a):p:=nomatch h
theorem Mine.Lake.bC{p:Prop}(h:¬¬p):p:=Classical.byContradiction h
theorem Mine.Lake.su{p:Prop}(h:Ye=Yc):p:=nomatch h
theorem Mine.Lake.pz{p:Prop}(h:Yc=Ye):p:=nomatch h
@[elab_as_elim]theorem Mine.Lake.zJ5{α:Sort _}{P:α->Prop}{a b:α}(h:a=b)(k:P b):P a:=h▸k
@[elab_as_elim]theorem Mine.Lake.pd{α:Sort _}{P:α->Prop}{a b:α}(h:b=a)(k:P b):P a:=h▸k
local macro_rules (kind:=Lean.Parser.Tactic.tacticErw___)|s=>pure (.node .none `Lean.Parser.Tactic.refine #[Lean.mkAtom "refine",Lean.Syntax.mkApp (Lean.mkIdent `Mine.Lake.zJ5) #[⟨s[2][1][0][1]⟩,⟨.node .none `Lean.Parser.Term.syntheticHole #[Lean.mkAtom "?",.node .none `Lean.Parser.Term.hole #[Lean.mkAtom "_"]]⟩]])
def Mine.Lake.nr{β:Sort _}(b:β)(s:β->β)(n:Y9):β:=@Nat.rec (λ_=>β) b (λ_ r=>s r) n
def Mine.Lake.lr{α:Type _}{β:Sort _}(b:β)(s:α->Yb α->β->β)(l:Yb α):β:=@List.rec α (λ_=>β) b s l
theorem Mine.Lake.Ct{α:Type _}{a:α}{p:Prop}(h:Y6 a=Y8):p:=nomatch h
theorem Mine.Lake.AZ{α:Type _}{a:α}{l:Yb α}{p:Prop}(h:[]=a::l):p:=nomatch h
theorem Mine.Lake.Ab{α:Type _}{a:α}{l:Yb α}{p:Prop}(h:a::l=[]):p:=nomatch h
theorem Mine.Lake.tq{α:Type _}{a:α}{p:Prop}(h:a∈([]:Yb α)):p:=nomatch h
theorem Mine.Lake.Oo{a:Y9}{p:Prop}(h:a<0):p:=nomatch h
theorem Mine.Lake.Op{a:Y9}{p:Prop}(h:0=a+1):p:=nomatch h
theorem Mine.Lake.HO{a:Y9}{p:Prop}(h:a+1=0):p:=nomatch h
theorem Mine.Lake.xb{c:Prop}[Zf c]{t:Sort _}{a b:t}(h:¬c:=by decide):(if c then a else b)=b:=if_neg h
noncomputable section
open PySem.Challenge (pw_dm0167_01)
open PySem.W.Fast (te10110043849684766642 te10274390034422433532 te10295753902157049106 te1066825118222455980 te11892475500146522536 te12563942051412417395 te14082659384304107361 te14289696077712309145 te1435165496053646825 te14364793385576792824 te14374325043358763698 te15667345088766844465 te4187177175401517315 te5923862056798008813 te8920871248978507458 tw10110043849684766642 tw10274390034422433532 tw10295753902157049106 tw1066825118222455980 tw11892475500146522536 tw12563942051412417395 tw14082659384304107361 tw14289696077712309145 tw1435165496053646825 tw14364793385576792824 tw14374325043358763698 tw15667345088766844465)
def Mine.Lake.iv:Yb Y9:=[14,4,0,3,4294967295,6,1,24,11,0,4294967295,13,6,16,32,16,9,0,1,7,13,16,119,16,104,16,105,16,108,16,101,15,173,11,16,101,16,108,16,115,16,101,15,162,9,16,100,16,101,16,102,15,153,15,16,114,16,101,16,116,16,117,16,114,16,110,15,138,15,16,97,16,115,16,115,16,101,16,114,16,116,15,123,13,16,98,16,114,16,101,16,97,16,107,15,110,13,16,99,16,108,16,97,16,115,16,115,15,97,19,16,99,16,111,16,110,16,116,16,105,16,110,16,117,16,101,15,78,11,16,101,16,108,16,105,16,102,15,67,9,16,116,16,114,16,121,15,58,15,16,101,16,120,16,99,16,101,16,112,16,116,15,43,13,16,114,16,97,16,105,16,115,16,101,15,30,15,16,105,16,109,16,112,16,111,16,114,16,116,15,15,13,16,121,16,105,16,101,16,108,16,100,15,2,0,6,10,1]
def Mine.Lake.ix:Yb Y9:=[14,4,0,1,4294967295,24,11,0,4294967295,13,6,16,32,16,9,0,1,23,16,0,1,16,35,13,4,8,13,0,24,5,0,4294967295,2,1,18,16,10,1]
def Mine.Lake.iy:Yb Y9:=[14,9,4,1,4294967295,16,34,16,39,0,7,72,16,34,16,34,16,34,24,12,0,4294967295,13,7,21,16,34,16,92,0,1,23,37,0,4294967295,7,6,16,92,3,15,15,13,16,34,5,7,0,16,34,16,34,1,15,2,0,24,12,0,4294967295,13,7,21,16,34,16,92,0,1,18,23,9,0,1,16,34,16,34,16,34,18,15,186,56,16,34,24,17,0,4294967295,13,12,21,9,1024,4,268435456,0,0,0,0,0,0,1,23,24,0,4294967295,16,92,3,24,17,0,4294967295,13,12,21,9,1024,4,268435456,0,0,0,0,0,0,1,18,24,6,0,1,16,34,1,15,130,72,16,39,16,39,16,39,24,12,0,4294967295,13,7,21,16,39,16,92,0,1,23,37,0,4294967295,7,6,16,92,3,15,15,13,16,39,5,7,0,16,39,16,39,1,15,2,0,24,12,0,4294967295,13,7,21,16,39,16,92,0,1,18,23,9,0,1,16,39,16,39,16,39,18,15,58,56,16,39,24,17,0,4294967295,13,12,21,9,1024,128,268435456,0,0,0,0,0,0,1,23,24,0,4294967295,16,92,3,24,17,0,4294967295,13,12,21,9,1024,128,268435456,0,0,0,0,0,0,1,18,24,6,0,1,16,39,1,15,2,0,1]
def Mine.Lake.jc:Yb Y9:=[14,4,0,1,4294967295,24,11,0,4294967295,13,6,16,32,16,9,0,1,13,9,21,8,12,16,35,16,92,0,1]
def Mine.Lake.jd:Yb Y9:=[14,4,0,4,4294967295,24,9,0,4294967295,13,4,8,12,0,1,7,15,16,114,16,101,16,116,16,117,16,114,16,110,15,58,13,16,98,16,114,16,101,16,97,16,107,15,45,19,16,99,16,111,16,110,16,116,16,105,16,110,16,117,16,101,15,26,13,16,114,16,97,16,105,16,115,16,101,15,13,11,16,112,16,97,16,115,16,115,15,2,0,6,10,1]
def Mine.Lake.je:Yb Y9:=[14,4,0,1,4294967295,24,17,1,4294967295,13,12,21,9,0,908,939524096,671088640,0,0,0,0,0,1,1]
namespace MineTop
open PySem PySem.W PyProof.Rows
theorem Oq(h:YN.row.Holds):YN.Holds:=holds_law (by
  unfold OpenLaw.wellSaid OpenRow.wellSaid OpenRow.partSaid looksOpen;repeat' with_reducible refine look_both ?_ ?_
  all_goals kernel_rfl) λ_=>h
def ni:Yb YW->Y9->YW|[],_=>.Return Y8 ⟨0,0,0,0⟩|a::_,0=>a|_::r,n+1=>ni r n
def cls:YW->Yb YW|.ClassDef _ _ _ b ..=>b|_=>[]
def vu:YW->Zx|.FunctionDef n ps b _ _ _ sc _ _ _=>⟨n,n,ps,.stmts b,sc,0,[],.none,.none,.none,.none,Y8,.none,.none,0⟩|_=>default
def Ac:Yb Yr->Yb Yr|[]=>[]|[a]=>[a]|a::_::r=>a::Ac r
def bt:Y9->Yb Yr->BT|0,_=>.nil|_+1,[]=>.nil|n+1,o::r=>.node o (bt n<|Ac r)<|bt n<|Ac r.tail
def Lz(s:Yg):YA:=if h:S.low s.cps.toList then S.litE (s.cps.toList.map UInt8.ofNat) s.cps.toList h Y7 else""
noncomputable abbrev Iz(n:Y9):Z0:=.int (.ofNat n) 0
noncomputable abbrev Jz(n m:Y9):Z0:=.int (.ofNat n) m
abbrev Fz(x:YW)(a b:Yg):Data:=.func {vu x with name:=a,qualname:=b,globals:=0,closure:=[],defaults:=.none,kwdefaults:=.none,doc:=.none,pyModule:=.none,annotations:=Y8,code:=.none,closureTuple:=.none,builtins:=0}
abbrev Gz(x:YW)(a b:Yg)(m c:Z0):Data:=.func {vu x with name:=a,qualname:=b,globals:=3,closure:=[],defaults:=.none,kwdefaults:=.none,doc:=.none,pyModule:=m,annotations:=Y8,code:=c,closureTuple:=.none,builtins:=0}
noncomputable abbrev kh(P:Yq)(x:Yg):Yh:=PySem.PyData.keyHash P x
abbrev ki(P:Yq)(x:Yg)(n:Y9)(v:Z0):YS:=⟨kh P x,.str x n,v⟩
def TB:Yb YW:=Ym.main.body
def s0:Yg:="__name__"
def s2:Yg:="__doc__"
def s3:Yg:="__package__"
def s4:Yg:="__loader__"
def s5:Yg:="__spec__"
def Ec:Yg:="compile"
def Ed:Yg:="copyright"
def BC:Yg:="__main__"
def zb:Yg:="_sre"
def Ee:Yg:="__annotations__"
def Ef:Yg:="__builtins__"
def Eg:Yg:="__file__"
def qW:Yg:="/claim/cut.py"
def Eh:Yg:="__cached__"
def Cu:Yg:="<module>"
def Cw:Yg:=⟨⟨[]⟩⟩
def HP:Yg:="template"
def HQ:Yg:="getcodesize"
def HR:Yg:="ascii_iscased"
def HS:Yg:="unicode_iscased"
def HT:Yg:="ascii_tolower"
def HU:Yg:="unicode_tolower"
def HV:Yg:="MAGIC"
def HW:Yg:="CODESIZE"
def HX:Yg:="MAXREPEAT"
def HY:Yg:="MAXGROUPS"
def B3:Yg:="__module__"
def B4:Yg:="__firstlineno__"
def B5:Yg:="__static_attributes__"
def zc:Yg:="__dict__"
def zd:Yg:="__weakref__"
def Cy:Yg:="__init__"
def vI:Yg:="cpy313.idlelib.pyparse"
def ze:Yg:="_wall"
def Ei:Yg:="_twin_re_1"
def Ej:Yg:="_twin_re_2"
def Ek:Yg:="_twin_re_3"
def El:Yg:="_twin_re_4"
def Em:Yg:="_twin_re_5"
def En:Yg:="_twin_re_6"
def Eo:Yg:="_twin_re_7"
def Cz:Yg:="C_NONE"
def CA:Yg:="C_BACKSLASH"
def CB:Yg:="C_STRING_FIRST_LINE"
def CC:Yg:="C_STRING_NEXT_LINES"
def CD:Yg:="C_BRACKET"
def Ep:Yg:="_synchre"
def Er:Yg:="_junkre"
def Es:Yg:="_match_stringre"
def Et:Yg:="_itemre"
def Eu:Yg:="_closere"
def Ev:Yg:="_chew_ordinaryre"
def yd:Yg:="ParseMap"
def HZ:Yg:="__qualname__"
def BD:Yg:="__missing__"
def yQ:Yg:="self"
def Ew:Yg:="trans"
def x0:Yg:="<genexpr>"
def Ex:Yg:=".0"
def Ey:Yg:="c"
def ye:Yg:="Parser"
def Ez:Yg:="set_code"
def EA:Yg:="find_good_parse_start"
def EB:Yg:="set_lo"
def EC:Yg:="_study1"
def ED:Yg:="get_continuation_type"
def EE:Yg:="_study2"
def EF:Yg:="compute_bracket_indent"
def EG:Yg:="get_num_lines_in_stmt"
def EH:Yg:="compute_backslash_indent"
def EI:Yg:="get_base_indent_string"
def EJ:Yg:="is_block_opener"
def EK:Yg:="is_block_closer"
def EL:Yg:="get_last_stmt_bracketing"
def Ad:Yg:="code"
def B6:Yg:="i"
def CE:Yg:="goodlines"
def B7:Yg:="law_dm0167_01"
def Ae:Yg:="_law_text"
def Af:Yg:="_law_first_word"
def Ag:Yg:="_law_number"
def Ah:Yg:="_law_all"
def Ai:Yg:="law"
def t0:YA:=SL.s14018661285674007319x4
def yf:YA:=SL.s9222952809800978799x4
def zf:YA:=SL.s2742458400755230247x6
def EM:YA:=SL.s1438033511350832697x5
def EN:YA:=SL.s4290257624100764138x5
def rn:YA:=SL.s2766695959194262286x5
def Aj:YA:=SL.s17162191345867700912x4
def CF:YA:=SL.s9001593270443806431x14
def EO:YA:=SL.s10852414792293593619x7
def yg:YA:=SL.s5991306692159431302x13
def EP:YA:=SL.s7097527257260152453x26
def EQ:YA:=SL.s6658869562736209489x6
def xX:YA:=SL.s5856160107412720595x4
def Ak:YA:=SL.s658472552662922059x5
def zg:YA:=SL.s14755015743595814543x17
def CG:YA:=SL.s6511155373996960695x17
def CH:YA:=SL.s12411053484034534018x21
def CI:YA:=SL.s10220274742760427390x26
def vS:YA:=SL.s7174869446012820540x8
def Al:YA:=SL.s12171344214640291687x10
def y8:YA:=SL.s15992201931430999065x14
def xc:YA:=SL.s11030030927630378310x26
def BE:YA:=SL.s67735186229215510x16
def ER:YA:=SL.s7929333955151719606x9
def TE(n k:Y9)(t:Yb YS):Y9->Yb YS|0=>t|m+1=>⟨.ofNat n,.int (.ofNat n) k,Jz 120 1066⟩::TE (n+1) (k+2) t m
def TJ:Y9->Yb Y9->Yb Z0|_,[]=>[]|k,a::l=>.int (.ofNat a) k::TJ (k+1) l
def TI:Yb Y9->Yb Z0|[]=>[]|a::l=>.int (.ofNat a) 0::TI l
def i3:Z0:=Iz 3
def i1:Z0:=Iz 1
def i0:Z0:=Iz 0
def uu:Z0:=Iz 13
def kD:Z0:=Iz 276
def i2:Z0:=Iz 2
def i4:Z0:=Iz 4
def e0:YS:=⟨.ofNat 40,Jz 40 1147,Jz 40 1340⟩
def e1:YS:=⟨.ofNat 91,Jz 91 1249,Jz 40 1352⟩
def e2:YS:=⟨.ofNat 123,Jz 123 1313,Jz 40 1346⟩
def xd(P:Yq)(f:YA->Z0):Y9->Yb Yg->Yb YS|_,[]=>[]|n,x::r=>ki P x n (f<|Lz x)::xd P f (n+1) r
def I0(P:Yq)(f:YA->Z0):Y9->Yb (Yg×YA)->Yb YS|_,[]=>[]|n,(x,y)::r=>ki P x n (f y)::I0 P f (n+1) r
def o0(P:Yq):Yr:=⟨.type t0,Y8,.dict  (S_<|[ki P s0 1<|.str "builtins" 160,ki P s2 2<|.builtin<|Lz "builtins.__doc__:str#opaque",ki P s3 3<|.builtin<|Lz "builtins.__package__:str#opaque",ki P s4 4<|.builtin<|Lz "builtins.__loader__:shared#opaque",ki P s5 5<|.builtin<|SL.s11665532747177232413x24]++(xd P .builtin 6 ["__build_class__","__import__","abs","all","any","ascii","bin","breakpoint","callable","chr"]++([ki P Ec 16<|.builtin<|SL.s725004073602090463x7]++(xd P .builtin 17 ["delattr","dir","divmod","eval","exec","format","getattr","globals","hasattr","hash","hex","id","input","isinstance","issubclass","iter","aiter","len","locals","max","min","next","anext","oct","ord","pow","print","repr","round","setattr","sorted"]++([ki P "sum" 48<|.builtin<|SL.s741896355592496720x3,ki P "vars" 49<|.builtin<|SL.s17925004256654032244x4,ki P "None" 50 .none,ki P "Ellipsis" 51 .ellipsis,ki P "NotImplemented" 52 .notImplemented,ki P "False" 53<|.bool Yc,ki P "True" 54<|.bool Ye]++(xd P .type 55 ["bool","memoryview","bytearray","bytes","classmethod","complex"]++([ki P "dict" 61<|.type t0]++(xd P .type 62 ["enumerate","filter","float","frozenset","property","int"]++([ki P "list" 68<|.type yf,ki P "map" 69<|.type<|SL.s462964344163437139x3,ki P "object" 70<|.type zf,ki P "range" 71<|.type EM]++(xd P .type 72 ["reversed","set","slice","staticmethod","str"]++([ki P "super" 77<|.type EN,ki P "tuple" 78<|.type rn,ki P "type" 79<|.type Aj,ki P "zip" 80<|.type<|SL.s14339709457334898076x3,ki P "__debug__" 81<|.bool Ye]++(xd P .type 82 ["BaseException","BaseExceptionGroup","Exception","GeneratorExit","KeyboardInterrupt","SystemExit","ArithmeticError","AssertionError"]++([ki P "AttributeError" 90<|.type CF]++(xd P .type 91 ["BufferError","EOFError","ImportError","LookupError","MemoryError","NameError"]++([ki P "OSError" 97<|.type EO]++(xd P .type 98 ["ReferenceError","RuntimeError","StopAsyncIteration"]++([ki P "StopIteration" 101<|.type yg]++(xd P .type 102 ["SyntaxError","SystemError","TypeError","ValueError","Warning","FloatingPointError","OverflowError","ZeroDivisionError","BytesWarning","DeprecationWarning","EncodingWarning","FutureWarning","ImportWarning","PendingDeprecationWarning","ResourceWarning","RuntimeWarning","SyntaxWarning","UnicodeWarning","UserWarning","BlockingIOError","ChildProcessError","ConnectionError","FileExistsError","FileNotFoundError","InterruptedError","IsADirectoryError","NotADirectoryError","PermissionError","ProcessLookupError","TimeoutError","IndentationError"]++(xd P .type 133 ["_IncompleteInputError","IndexError","KeyError","ModuleNotFoundError","NotImplementedError","PythonFinalizationError","RecursionError","UnboundLocalError","UnicodeError","BrokenPipeError","ConnectionAbortedError","ConnectionRefusedError","ConnectionResetError","TabError","UnicodeDecodeError","UnicodeEncodeError","UnicodeTranslateError","ExceptionGroup"]++([ki P "EnvironmentError" 151<|.type EO,ki P "IOError" 152<|.type EO,ki P "open" 153<|.builtin<|SL.s16789243406116112673x4]++I0 P .builtin 154 [("quit",SL.s14400166428656793546x20),("exit",SL.s5857708277339239366x20),(Ed,Lz "builtins.copyright#opaque"),("credits",Lz "builtins.credits#opaque"),("license",Lz "builtins.license#opaque"),("help",SL.s7804999707787243718x20)])))))))))))))))))))) 159,#[]⟩
def o1(P:Yq):Yr:=⟨.type t0,Y8,.dict #[ki P "builtins" 162<|.ref 4,ki P BC 163<|.ref 5,ki P zb 244<|.ref 12] 3,#[]⟩
def o2(P:Yq):Yr:=⟨.none,Y8,.dict #[ki P "\x69mport.loaded._sre" 183<|.bool Ye,ki P "class._frozen_importlib.BuiltinImporter" 185<|.ref 14,ki P "watched.\x69mport" 206<|.ref 18,ki P "class._frozen_importlib.ModuleSpec" 216<|.ref 22,ki P "sys.modules.booked-epoch" 245 i3,ki P "\x69mport.later-laid._sre" 270<|.bool Ye,ki P "watched.library" 272<|.ref 27,ki P "watched.library-objects" 0<|.str ⟨⟨[12]⟩⟩ 0,ki P "watched.library-deep._sre" 273<|.str ⟨⟨[4,0,0,11,4,0,0,11,4,0,0,3,4,0,0,11,8,4,100,105,99,116,2]⟩⟩ 0] 9,#[]⟩
def o3(P:Yq):Yr:=⟨.type t0,Y8,.dict #[ki P s0 165<|.str BC 164,ki P s2 166 .none,ki P s3 167 .none,ki P s4 168<|.builtin EP,ki P s5 169 .none,ki P Ee 170<|.ref 6,ki P Ef 171<|.ref 4,ki P Eg 173<|.str qW 172,ki P Eh 174 .none,ki P zb 275<|.ref 12] 10,#[]⟩
def o4:Yr:=⟨.type EQ,Y6 0,.plain,#[]⟩
def o5:Yr:=⟨.type EQ,Y6 3,.plain,#[]⟩
def o6:Yr:=⟨.type t0,Y8,.dict #[] 0,#[]⟩
def o7:Yr:=⟨.type rn,Y8,.seq #[] 0,#[]⟩
def o8:Yr:=⟨.none,Y8,.fields #[],#[]⟩
def o9:Yr:=⟨.type xX,Y8,.fields #[.str Cu 176,.str Cu 177,.str qW 178,i1,i0,i0,i0,i0,.ref 7,.bool Yc,Iz 175,.ref 8,.none,.none,.none,.none,Iz 179,i1,.str qW 180],#[]⟩
def ES:Yr:=⟨.type Ak,Y8,.plain,#[Y6<|.ref 9,Y6<|.ref 3,Y6<|.ref 3,Y8,Y6<|.str BC 164,Y8,Y6<|.ref 0]⟩
def I1(P:Yq):Yr:=⟨.type t0,Y8,.dict #[ki P s0 247<|.str zb 246,ki P s2 248 .none,ki P s3 250<|.str Cw 249,ki P s4 251<|.builtin<|Lz "off-the-table:_sre.__loader__:shared#opaque",ki P s5 252<|.builtin<|Lz "off-the-table:_sre.__spec__:shared#opaque",ki P Ec 253<|.builtin<|SL.s492968859115322481x12,ki P HP 254<|.builtin<|Lz "off-the-table:_sre.template:shared#opaque",ki P HQ 255<|.builtin<|Lz "off-the-table:_sre.getcodesize:shared#opaque",ki P HR 256<|.builtin<|Lz "off-the-table:_sre.ascii_iscased:shared#opaque",ki P HS 257<|.builtin<|Lz "off-the-table:_sre.unicode_iscased:shared#opaque",ki P HT 258<|.builtin<|Lz "off-the-table:_sre.ascii_tolower:shared#opaque",ki P HU 259<|.builtin<|Lz "off-the-table:_sre.unicode_tolower:shared#opaque",ki P HV 261<|Jz 20230612 260,ki P HW 263<|Jz 4 262,ki P HX 265<|Jz 4294967295 264,ki P HY 267<|Jz 1073741823 266,ki P Ed 269<|.str " SRE 2.2.2 Copyright (c) 1997-2002 by Secret Labs AB " 268] 17,#[]⟩
def ET:Yr:=⟨.type EQ,Y6 11,.plain,#[]⟩
def EU(P:Yq):Yr:=⟨.type t0,Y8,.dict #[ki P B3 189<|.str "_frozen_importlib" 186,ki P B4 190<|Jz 971 187,ki P s2 191<|.builtin<|Lz "_frozen_importlib.BuiltinImporter.__doc__:str#opaque",ki P "_ORIGIN" 192<|.str "built-in" 188,ki P "find_spec" 193<|.builtin<|Lz "_frozen_importlib.BuiltinImporter.find_spec#opaque",ki P "create_module" 194<|.builtin<|Lz "_frozen_importlib.BuiltinImporter.create_module#opaque",ki P "exec_module" 195<|.builtin<|Lz "_frozen_importlib.BuiltinImporter.exec_module#opaque",ki P "get_code" 196<|.builtin<|Lz "_frozen_importlib.BuiltinImporter.get_code#opaque",ki P "get_source" 197<|.builtin<|Lz "_frozen_importlib.BuiltinImporter.get_source#opaque",ki P "is_package" 198<|.builtin<|Lz "_frozen_importlib.BuiltinImporter.is_package#opaque",ki P "load_module" 199<|.builtin<|Lz "_frozen_importlib.BuiltinImporter.load_module#opaque",ki P B5 200<|.ref 15,ki P zc 202<|.ref 16,ki P zd 204<|.ref 17] 14,#[]⟩
def EV:Yr:=⟨.type Aj,Y8,.cls ⟨"BuiltinImporter",[.type zf],[.ref 14,.type zf],13,"BuiltinImporter",Ye,[],[],Yc,Y8,Yc⟩,#[]⟩
def EW:Yr:=⟨.type zg,Y8,.fields #[.str zc 201,.ref 14,.builtin CG,.builtin CH],#[]⟩
def EX:Yr:=⟨.type zg,Y8,.fields #[.str zd 203,.ref 14,.builtin CI,.none],#[]⟩
def EY:Yr:=⟨.none,Y8,.seq #[uu,.str "\x06½\n__module__\x06º\x11_frozen_importlib\x06¾\x0f__firstlineno__\x04»\x00ϋ\x06¿\x07__doc__\t4_frozen_importlib.BuiltinImporter.__doc__:str#opaque\x06À\x07_ORIGIN\x06¼\x08built-in\x06Á\tfind_spec\t2_frozen_importlib.BuiltinImporter.find_spec#opaque\x06Â\x0dcreate_module\t6_frozen_importlib.BuiltinImporter.create_module#opaque\x06Ã\x0bexec_module\t4_frozen_importlib.BuiltinImporter.exec_module#opaque\x06Ä\x08get_code\t1_frozen_importlib.BuiltinImporter.get_code#opaque\x06Å\nget_source\t3_frozen_importlib.BuiltinImporter.get_source#opaque\x06Æ\nis_package\t3_frozen_importlib.BuiltinImporter.is_package#opaque\x06Ç\x0bload_module\t4_frozen_importlib.BuiltinImporter.load_module#opaque\x06È\x15__static_attributes__\x04\x00\x00\x0f\x06Ê\x08__dict__\x04\x00\x00\x10\x06Ì\x0b__weakref__\x04\x00\x00\x11" 0,.bool Ye,.bool Ye,.str Cw 205,Iz 21,.str "\x06ã\n__module__\x06Ù\x11_frozen_importlib\x06ä\x0f__firstlineno__\x04Ú\x00Ȳ\x06å\x07__doc__\t/_frozen_importlib.ModuleSpec.__doc__:str#opaque\x06æ\x08__init__\t,_frozen_importlib.ModuleSpec.__init__#opaque\x06ç\x08__repr__\t,_frozen_importlib.ModuleSpec.__repr__#opaque\x06è\x06__eq__\t*_frozen_importlib.ModuleSpec.__eq__#opaque\x06é\x06cached\t*_frozen_importlib.ModuleSpec.cached#opaque\x06ê\x06parent\t*_frozen_importlib.ModuleSpec.parent#opaque\x06ë\x0chas_location\t0_frozen_importlib.ModuleSpec.has_location#opaque\x06ì\x15__static_attributes__\x04\x00\x00\x17\x06î\x08__dict__\x04\x00\x00\x18\x06ð\x0b__weakref__\x04\x00\x00\x19\x06ñ\x08__hash__\x00" 0,.bool Ye,.bool Ye,.str Cw 242] 1,#[]⟩
def EZ:Yr:=⟨.type yf,Y8,.seq #[] 0,#[]⟩
def F0(P:Yq):Yr:=⟨.type t0,Y8,.dict #[ki P "name" 208<|.str zb 207,ki P "loader" 209<|.ref 14,ki P "origin" 210<|.str "built-in" 184,ki P "loader_state" 211 .none,ki P "submodule_search_locations" 212 .none,ki P "_uninitialized_submodules" 213<|.ref 19,ki P "_set_fileattr" 214<|.bool Yc,ki P "_cached" 215 .none,ki P "_initializing" 243<|.bool Yc] 9,#[]⟩
def F1(P:Yq):Yr:=⟨.type t0,Y8,.dict #[ki P B3 227<|.str "_frozen_importlib" 217,ki P B4 228<|Jz 562 218,ki P s2 229<|.builtin<|Lz "_frozen_importlib.ModuleSpec.__doc__:str#opaque",ki P Cy 230<|.builtin<|Lz "_frozen_importlib.ModuleSpec.__init__#opaque",ki P "__repr__" 231<|.builtin<|Lz "_frozen_importlib.ModuleSpec.__repr__#opaque",ki P "__eq__" 232<|.builtin<|Lz "_frozen_importlib.ModuleSpec.__eq__#opaque",ki P "cached" 233<|.builtin<|Lz "_frozen_importlib.ModuleSpec.cached#opaque",ki P "parent" 234<|.builtin<|Lz "_frozen_importlib.ModuleSpec.parent#opaque",ki P "has_location" 235<|.builtin<|Lz "_frozen_importlib.ModuleSpec.has_location#opaque",ki P B5 236<|.ref 23,ki P zc 238<|.ref 24,ki P zd 240<|.ref 25,ki P "__hash__" 241 .none] 13,#[]⟩
def F3:Yr:=⟨.type Aj,Y8,.cls ⟨"ModuleSpec",[.type zf],[.ref 22,.type zf],21,"ModuleSpec",Ye,[],[],Yc,Y8,Yc⟩,#[]⟩
def F4:Yr:=⟨.type rn,Y8,.seq #[.str "_cached" 219,.str "_set_fileattr" 220,.str "_uninitialized_submodules" 221,.str "loader" 222,.str "loader_state" 223,.str "name" 224,.str "origin" 225,.str "submodule_search_locations" 226] 0,#[]⟩
def F5:Yr:=⟨.type zg,Y8,.fields #[.str zc 237,.ref 22,.builtin CG,.builtin CH],#[]⟩
def F6:Yr:=⟨.type zg,Y8,.fields #[.str zd 239,.ref 22,.builtin CI,.none],#[]⟩
def F7:Yr:=⟨.ref 22,Y6 20,.plain,#[]⟩
def F8:Yr:=⟨.none,Y8,.seq #[Iz 11,.str ⟨⟨[6,247,8,95,95,110,97,109,101,95,95,6,246,4,95,115,114,101,6,248,7,95,95,100,111,99,95,95,0,6,250,11,95,95,112,97,99,107,97,103,101,95,95,6,249,0,6,251,10,95,95,108,111,97,100,101,114,95,95,4,0,0,14,6,252,8,95,95,115,112,101,99,95,95,4,0,0,26,6,253,7,99,111,109,112,105,108,101,9,12,95,115,114,101,46,99,111,109,112,105,108,101,6,254,8,116,101,109,112,108,97,116,101,9,13,95,115,114,101,46,116,101,109,112,108,97,116,101,6,255,11,103,101,116,99,111,100,101,115,105,122,101,9,16,95,115,114,101,46,103,101,116,99,111,100,101,115,105,122,101,6,256,13,97,115,99,105,105,95,105,115,99,97,115,101,100,9,18,95,115,114,101,46,97,115,99,105,105,95,105,115,99,97,115,101,100,6,257,15,117,110,105,99,111,100,101,95,105,115,99,97,115,101,100,9,20,95,115,114,101,46,117,110,105,99,111,100,101,95,105,115,99,97,115,101,100,6,258,13,97,115,99,105,105,95,116,111,108,111,119,101,114,9,18,95,115,114,101,46,97,115,99,105,105,95,116,111,108,111,119,101,114,6,259,15,117,110,105,99,111,100,101,95,116,111,108,111,119,101,114,9,20,95,115,114,101,46,117,110,105,99,111,100,101,95,116,111,108,111,119,101,114,6,261,5,77,65,71,73,67,4,260,0,20230612,6,263,8,67,79,68,69,83,73,90,69,4,262,0,4,6,265,9,77,65,88,82,69,80,69,65,84,4,264,0,4294967295,6,267,9,77,65,88,71,82,79,85,80,83,4,266,0,1073741823,6,269,9,99,111,112,121,114,105,103,104,116,6,268,53,32,83,82,69,32,50,46,50,46,50,32,67,111,112,121,114,105,103,104,116,32,40,99,41,32,49,57,57,55,45,50,48,48,50,32,98,121,32,83,101,99,114,101,116,32,76,97,98,115,32,65,66,32]⟩⟩ 0,.bool Ye,.bool Yc,.str zb 271] 0,#[]⟩
def I2(P:Yq)(t:Yb YS):Yb YS:=ki P s0 165 (.str vI 289)::ki P s2 166 .none::ki P s3 167 .none::ki P s4 168 (.builtin EP)::ki P s5 169 .none::ki P Ee 170 (.ref 6)::ki P Ef 171 (.ref 4)::ki P Eg 173 (.str qW 172)::ki P Eh 174 .none::ki P zb 275 (.ref 12)::ki P ze 288 (.ref 38)::ki P Ei 504 (.ref 43)::ki P Ej 548 (.ref 48)::t
def Os(P:Yq):Yr:=⟨.type t0,Y8,.dict ⟨I2 P []⟩ 13,#[]⟩
def CJ:Yr:=⟨.none,Y8,.fields #[i2,i0,.ref 37],#[]⟩
def Am:Yr:=⟨.type rn,Y8,.seq #[.none] 0,#[]⟩
def I3(P:Yq)(t:Yb YS):Yb YS:=I2 P<|ki P Ek 823 (.ref 53)::ki P El 857 (.ref 58)::t
def Ot(P:Yq):Yr:=⟨.type t0,Y8,.dict ⟨I3 P []⟩ 15,#[]⟩
def I4(P:Yq)(t:Yb YS):Yb YS:=I3 P<|ki P Em 954 (.ref 63)::ki P En 984 (.ref 68)::ki P Eo 1008 (.ref 73)::t
def Ou(P:Yq):Yr:=⟨.type t0,Y8,.dict ⟨I4 P []⟩ 18,#[]⟩
def I5(P:Yq)(t:Yb YS):Yb YS:=I4 P<|ki P Cz 1017 (Jz 0 1012)::ki P CA 1018 (Jz 1 1013)::ki P CB 1019 (Jz 2 1014)::ki P CC 1020 (Jz 3 1015)::ki P CD 1021 (Jz 4 1016)::ki P Ep 1023 (.ref 78)::ki P Er 1025 (.ref 79)::ki P Es 1027 (.ref 80)::ki P Et 1029 (.ref 81)::ki P Eu 1031 (.ref 82)::ki P Ev 1033 (.ref 83)::t
def Ow(P:Yq):Yr:=⟨.type t0,Y8,.dict ⟨I5 P []⟩ 29,#[]⟩
def I6(P:Yq)(t:Yb YS):Yb YS:=I5 P<|ki P yd 1061 (.ref 100)::t
def y9(P:Yq):Yr:=⟨.type t0,Y8,.dict ⟨I6 P []⟩ 30,#[]⟩
def xe:Yr:=⟨.none,Y8,.fields #[i2,i0,.ref 37,Iz 20,i0,.ref 89],#[]⟩
def Ox(P:Yq):Yr:=⟨.type t0,Y8,.dict #[ki P B3 1041<|.str vI 289,ki P HZ 1043<|.str yd 1042,ki P B4 1045<|Jz 20 1044,ki P BD 1053<|.ref 97,ki P B5 1054<|.ref 98] 5,#[]⟩
def Oy(P:Yq):Yr:=⟨.type t0,Y8,.dict #[ki P B3 1041<|.str vI 289,ki P B4 1045<|Jz 20 1044,ki P BD 1053<|.ref 97,ki P B5 1054<|.ref 98,ki P zc 1056<|.ref 101,ki P zd 1058<|.ref 102,ki P s2 1059 .none] 4,#[]⟩
def uv:Yr:=⟨.type xc,Y8,.fields #[.builtin<|SL.s15322075717076897914x13,.ref 100],#[]⟩
def uw:Yr:=⟨.type EM,Y8,.fields #[Jz 0 1064,Jz 128 1063,Jz 1 1065],#[]⟩
def zh:Yr:=⟨.type y8,Y8,.fields #[Iz 128,i0,i1],#[]⟩
def I7(P:Yq)(t:Yb YS):Yb YS:=I6 P<|ki P Ew 1323 (.ref 108)::t
def CK(P:Yq):Yr:=⟨.type t0,Y8,.dict ⟨I7 P []⟩ 31,#[]⟩
def An:Yr:=⟨.type yg,Y8,.fields #[.ref 110,.none,.none,.none,.bool Yc,.none],#[]⟩
def Oz(P:Yq):Yr:=⟨.type Ak,Y8,.dict #[ki P Ex 1330<|.ref 112,ki P Ey 1337<|.str "[" 1348] 2,#[]⟩
def OA(P:Yq):Yr:=⟨.type Ak,Y8,.dict #[ki P Ex 1360<|.ref 127,ki P Ey 1367<|.str "]" 1378] 2,#[]⟩
def CL:Yr:=⟨.ref 100,Y6 107,.dict ⟨TE 0 1067 (⟨.ofNat 10,Jz 10 1087,Jz 10 1414⟩::TE 11 1089 (⟨.ofNat 34,Jz 34 1135,Jz 34 1399⟩::⟨.ofNat 35,Jz 35 1137,Jz 35 1419⟩::⟨.ofNat 36,Jz 36 1139,Jz 120 1066⟩::⟨.ofNat 37,Jz 37 1141,Jz 120 1066⟩::⟨.ofNat 38,Jz 38 1143,Jz 120 1066⟩::⟨.ofNat 39,Jz 39 1145,Jz 39 1404⟩::e0::⟨.ofNat 41,Jz 41 1149,Jz 41 1370⟩::TE 42 1151 (e1::⟨.ofNat 92,Jz 92 1251,Jz 92 1409⟩::⟨.ofNat 93,Jz 93 1253,Jz 41 1382⟩::TE 94 1255 (e2::⟨.ofNat 124,Jz 124 1315,Jz 120 1066⟩::⟨.ofNat 125,Jz 125 1317,Jz 41 1376⟩::⟨.ofNat 126,Jz 126 1319,Jz 120 1066⟩::⟨.ofNat 127,Jz 127 1321,Jz 120 1066⟩::[]) 29) 49) 23) 10⟩ 128,#[]⟩
def OB(P:Yq):Yr:=⟨.type Ak,Y8,.dict #[ki P Ex 1390<|.ref 142,ki P Ey 1397<|.str "#" 1416] 2,#[]⟩
def OC(P:Yq):Yr:=⟨.type t0,Y8,.dict ⟨I7 P<|ki P ye 1605 (.ref 266)::[]⟩ 32,#[]⟩
def OD(P:Yq):Yr:=⟨.type t0,Y8,.dict #[ki P B3 1428<|.str vI 289,ki P HZ 1430<|.str ye 1429,ki P B4 1432<|Jz 28 1431,ki P Cy 1441<|.ref 172,ki P Ez 1449<|.ref 179,ki P EA 1464<|.ref 186,ki P EB 1472<|.ref 193,ki P EC 1491<|.ref 200,ki P ED 1498<|.ref 207,ki P EE 1518<|.ref 214,ki P EF 1532<|.ref 221,ki P EG 1540<|.ref 228,ki P EH 1554<|.ref 235,ki P EI 1565<|.ref 242,ki P EJ 1572<|.ref 249,ki P EK 1579<|.ref 256,ki P EL 1586<|.ref 263,ki P B5 1598<|.ref 264] 18,#[]⟩
def OE(P:Yq):Yr:=⟨.type t0,Y8,.dict #[ki P B3 1428<|.str vI 289,ki P B4 1432<|Jz 28 1431,ki P Cy 1441<|.ref 172,ki P Ez 1449<|.ref 179,ki P EA 1464<|.ref 186,ki P EB 1472<|.ref 193,ki P EC 1491<|.ref 200,ki P ED 1498<|.ref 207,ki P EE 1518<|.ref 214,ki P EF 1532<|.ref 221,ki P EG 1540<|.ref 228,ki P EH 1554<|.ref 235,ki P EI 1565<|.ref 242,ki P EJ 1572<|.ref 249,ki P EK 1579<|.ref 256,ki P EL 1586<|.ref 263,ki P B5 1598<|.ref 264,ki P zc 1600<|.ref 267,ki P zd 1602<|.ref 268,ki P s2 1603 .none] 4,#[]⟩
def I8(P:Yq):Yr:=⟨.type t0,Y8,.dict #[ki P s0 165<|.str B7 1606,ki P s2 166 .none,ki P s3 167 .none,ki P s4 168<|.builtin EP,ki P s5 169 .none,ki P Ee 170<|.ref 6,ki P Ef 171<|.ref 4,ki P Eg 173<|.str qW 172,ki P Eh 174 .none,ki P zb 275<|.ref 12,ki P ze 288<|.ref 38,ki P Ei 504<|.ref 43,ki P Ej 548<|.ref 48,ki P Ek 823<|.ref 53,ki P El 857<|.ref 58,ki P Em 954<|.ref 63,ki P En 984<|.ref 68,ki P Eo 1008<|.ref 73,ki P Cz 1017<|Jz 0 1012,ki P CA 1018<|Jz 1 1013,ki P CB 1019<|Jz 2 1014,ki P CC 1020<|Jz 3 1015,ki P CD 1021<|Jz 4 1016,ki P Ep 1023<|.ref 78,ki P Er 1025<|.ref 79,ki P Es 1027<|.ref 80,ki P Et 1029<|.ref 81,ki P Eu 1031<|.ref 82,ki P Ev 1033<|.ref 83,ki P yd 1061<|.ref 100,ki P Ew 1323<|.ref 108,ki P ye 1605<|.ref 266,ki P Ae 1613<|.ref 275,ki P Af 1622<|.ref 282,ki P Ag 1628<|.ref 287,ki P Ah 1634<|.ref 292,ki P Ai 1640<|.ref 297] 37,#[]⟩
def OF(P:Yq):Yr:=⟨.type t0,Y8,.dict #[ki P s0 247<|.str zb 246,ki P s2 248 .none,ki P s3 250<|.str Cw 249,ki P s4 251<|.ref 14,ki P s5 252<|.ref 26,ki P Ec 253<|.builtin<|SL.s492968859115322481x12,ki P HP 254<|.builtin<|SL.s4732307381456220424x13,ki P HQ 255<|.builtin<|SL.s3100639726926479615x16,ki P HR 256<|.builtin<|SL.s1824190863884607803x18,ki P HS 257<|.builtin<|SL.s15517275503517908518x20,ki P HT 258<|.builtin<|SL.s13462958993096105742x18,ki P HU 259<|.builtin<|SL.s7205697838950415266x20,ki P HV 261<|Jz 20230612 260,ki P HW 263<|Jz 4 262,ki P HX 265<|Jz 4294967295 264,ki P HY 267<|Jz 1073741823 266,ki P Ed 269<|.str " SRE 2.2.2 Copyright (c) 1997-2002 by Secret Labs AB " 268] 17,#[]⟩
def env:Zk:={scope:=Ym.main.scope,locals:=mainNs,globals:=mainNs,cells:=[],code:=.ref 30,frame:=Y6 31}
def l0:Yb YW:=[ni TB 1,ni TB 2,ni TB 3,ni TB 4]
def l1:Yb YW:=[ni TB 5,ni TB 6]
def l2:Yb YW:=[ni TB 7,ni TB 8,ni TB 9]
def l3:Yb YW:=[ni TB 10,ni TB 11,ni TB 12,ni TB 13,ni TB 14,ni TB 15,ni TB 16]
def l4:Yb YW:=[ni TB 17]
def l5:Yb YW:=[ni TB 18]
def l6:Yb YW:=[ni TB 19]
def l7:Yb YW:=[ni TB 20]
def l8:Yb YW:=[ni TB 21]
def l9:Yb YW:=[ni TB 22]
def x6:Yb YW:=[ni TB 23,ni TB 24,ni TB 25,ni TB 26,ni TB 27,ni TB 28]
def bE:Yb YW:=l0++(l1++(l2++(l3++(l4++(l5++(l6++(l7++(l8++(l9++(x6++([]:Yb YW)))))))))))
def cE:Code:=.body bE env
def q:ZR:=⟨0,0,0,0⟩
def kM(l:Yb YW)(p:ZR):Thread:=⟨PySem.Sem.wrap doneF deadEnd id id<|tw12563942051412417395 l env,cE,p,[Za q]⟩
theorem vD(l:Yb YW)(p:ZR):piecesOf l env cE p [Za q]=kM l p:=by show(⟨(execs l env).wrap doneF deadEnd id id,cE,p,[Za q]⟩:Thread)=_;delta kM;rw[te12563942051412417395]
def LA(P:Yq)(x3 x29:Yr)(t:Yb Yr):Yb Yr:=o0 P::o1 P::o2 P::x3::o4::o5::o6::o7::o8::o9::ES::I1 P::ET::EU P::EV::o7::EW::EX::EY::EZ::F0 P::F1 P::F3::F4::F5::F6::F7::F8::o7::x29::(⟨.type xX,Y8,.fields #[.str Cu 277,.str Cu 278,.str qW 279,i1,i0,i0,i0,i0,.ref 28,.bool Yc,kD,.ref 29,.none,.none,.none,.none,Iz 280,i1,.str qW 281],#[]⟩:Yr)::(⟨.type Ak,Y8,.plain,#[Y6<|.ref 30,Y6<|.ref 3,Y6<|.ref 3,Y8,Y6<|.str BC 164,Y8,Y6<|.ref 0]⟩:Yr)::t
def tJ(P:Yq)(t:Yb Yr):Yb Yr:=o7::o8::(⟨.type rn,Y8,.seq #[.str "k" 285] 0,#[]⟩:Yr)::o7::(⟨.none,Y8,Fz (ni TB 1) ze ze,#[]⟩:Yr)::(⟨.type xX,Y8,.fields #[.str ze 282,.str ze 283,.str qW 284,i2,i1,i0,i0,i3,.ref 32,.bool Ye,kD,.ref 33,.none,.ref 34,.ref 35,.ref 36,Iz 286,i2,.str qW 287],#[]⟩:Yr)::(⟨.type vS,Y8,Gz (ni TB 1) ze ze (.str BC 164)<|.ref 37,#[]⟩:Yr)::(⟨.type yf,Y8,.seq ⟨TJ 294 Mine.Lake.iv⟩ 0,#[]⟩:Yr)::o6::Am::(⟨.type rn,Y8,.seq ⟨TI Mine.Lake.iv⟩ 0,#[]⟩:Yr)::(⟨.type Al,Y8,.fields #[.str "\n    ^\n    [ \\t]*\n    (?: while\n    |   else\n    |   def\n    |   return\n    |   assert\n    |   break\n    |   class\n    |   continue\n    |   elif\n    |   try\n    |   except\n    |   raise\n    |   \x69mport\n    |   yield\n    )\n    \\b\n" 292,Jz 104 503,i0,.none,.none,.ref 42,i0],#[]⟩:Yr)::(⟨.type yf,Y8,.seq ⟨TJ 508 Mine.Lake.ix⟩ 0,#[]⟩:Yr)::o6::Am::(⟨.type rn,Y8,.seq ⟨TI Mine.Lake.ix⟩ 0,#[]⟩:Yr)::(⟨.type Al,Y8,.fields #[.str "\n    [ \\t]*\n    (?: \\# \\S .* )?\n    \\n\n" 506,Jz 96 547,i0,.none,.none,.ref 47,i0],#[]⟩:Yr)::t
def tN(P:Yq)(t:Yb Yr):Yb Yr:=(⟨.type yf,Y8,.seq ⟨TJ 552 Mine.Lake.iy⟩ 0,#[]⟩:Yr)::o6::Am::(⟨.type rn,Y8,.seq ⟨TI Mine.Lake.iy⟩ 0,#[]⟩:Yr)::(⟨.type Al,Y8,.fields #[.str "\n    \\\"\"\" [^\"\\\\]* (?:\n                     (?: \\\\. | \"(?!\"\") )\n                     [^\"\\\\]*\n                 )*\n    (?: \\\"\"\" )?\n\n|   \" [^\"\\\\\\n]* (?: \\\\. [^\"\\\\\\n]* )* \"?\n\n|   ''' [^'\\\\]* (?:\n                   (?: \\\\. | '(?!'') )\n                   [^'\\\\]*\n                )*\n    (?: ''' )?\n\n|   ' [^'\\\\\\n]* (?: \\\\. [^'\\\\\\n]* )* '?\n" 550,Jz 112 822,i0,.none,.none,.ref 52,i0],#[]⟩:Yr)::(⟨.type yf,Y8,.seq ⟨TJ 827 Mine.Lake.jc⟩ 0,#[]⟩:Yr)::o6::Am::(⟨.type rn,Y8,.seq ⟨TI Mine.Lake.jc⟩ 0,#[]⟩:Yr)::(⟨.type Al,Y8,.fields #[.str "\n    [ \\t]*\n    [^\\s#\\\\]    # if we match, m.end()-1 is the interesting char\n" 825,Jz 96 856,i0,.none,.none,.ref 57,i0],#[]⟩:Yr)::t
def tX(P:Yq)(t:Yb Yr):Yb Yr:=(⟨.type yf,Y8,.seq ⟨TJ 861 Mine.Lake.jd⟩ 0,#[]⟩:Yr)::o6::Am::(⟨.type rn,Y8,.seq ⟨TI Mine.Lake.jd⟩ 0,#[]⟩:Yr)::(⟨.type Al,Y8,.fields #[.str "\n    \\s*\n    (?: return\n    |   break\n    |   continue\n    |   raise\n    |   pass\n    )\n    \\b\n" 859,Jz 96 953,i0,.none,.none,.ref 62,i0],#[]⟩:Yr)::(⟨.type yf,Y8,.seq ⟨TJ 958 Mine.Lake.je⟩ 0,#[]⟩:Yr)::o6::Am::(⟨.type rn,Y8,.seq ⟨TI Mine.Lake.je⟩ 0,#[]⟩:Yr)::(⟨.type Al,Y8,.fields #[.str "\n    [^[\\](){}#'\"\\\\]+\n" 956,Jz 96 983,i0,.none,.none,.ref 67,i0],#[]⟩:Yr)::(⟨.type yf,Y8,.seq ⟨TJ 988 [14,4,0,1,4294967295,24,9,0,4294967295,13,4,8,12,0,1,16,92,1]⟩ 0,#[]⟩:Yr)::o6::Am::(⟨.type rn,Y8,.seq ⟨TI [14,4,0,1,4294967295,24,9,0,4294967295,13,4,8,12,0,1,16,92,1]⟩ 0,#[]⟩:Yr)::(⟨.type Al,Y8,.fields #[.str "\\s*\\\\" 986,Jz 32 1007,i0,.none,.none,.ref 72,i0],#[]⟩:Yr)::t
def ud(P:Yq)(t:Yb Yr):Yb Yr:=(⟨.type EM,Y8,.fields #[Jz 0 1010,Jz 5 1009,Jz 1 1011],#[]⟩:Yr)::(⟨.type y8,Y8,.fields #[Iz 5,i0,i1],#[]⟩:Yr)::o7::(⟨.type yg,Y8,.fields #[.ref 76,.none,.none,.none,.bool Yc,.none],#[]⟩:Yr)::(⟨.type xc,Y8,.fields #[.builtin<|SL.s9858327723941210770x17,.ref 43],#[]⟩:Yr)::(⟨.type xc,Y8,.fields #[.builtin BE,.ref 48],#[]⟩:Yr)::(⟨.type xc,Y8,.fields #[.builtin BE,.ref 53],#[]⟩:Yr)::(⟨.type xc,Y8,.fields #[.builtin BE,.ref 58],#[]⟩:Yr)::(⟨.type xc,Y8,.fields #[.builtin BE,.ref 63],#[]⟩:Yr)::(⟨.type xc,Y8,.fields #[.builtin BE,.ref 68],#[]⟩:Yr)::t
def uf(P:Yq)(t:Yb Yr):Yb Yr:=(⟨.type rn,Y8,.seq #[.type t0] 0,#[]⟩:Yr)::(⟨.type xc,Y8,.fields #[.builtin<|SL.s10062305145149207511x16,.type Aj],#[]⟩:Yr)::Ox P::o7::(⟨.none,Y8,.fields #[Iz 22,i4,.ref 96],#[]⟩:Yr)::(⟨.type xX,Y8,.fields #[.str yd 1036,.str yd 1037,.str qW 1038,Iz 20,i0,i0,i0,i0,.ref 87,.bool Yc,kD,.ref 88,.none,.none,.none,.none,Iz 1039,Iz 20,.str qW 1040],#[]⟩:Yr)::(⟨.type Ak,Y8,.plain,#[Y6<|.ref 89,Y6<|.ref 3,Y6<|.ref 86,Y8,Y6<|.str vI 289,Y8,Y6<|.ref 0]⟩:Yr)::o7::o8::(⟨.type rn,Y8,.seq #[.str yQ 1049,.str "key" 1050] 0,#[]⟩:Yr)::o7::(⟨.none,Y8,Fz (ni (cls<|ni TB 17) 0) BD "ParseMap.__missing__",#[]⟩:Yr)::(⟨.type xX,Y8,.fields #[.str BD 1046,.str "ParseMap.__missing__" 1047,.str qW 1048,Iz 22,i2,i0,i0,i3,.ref 91,.bool Ye,kD,.ref 92,.none,.ref 93,.ref 94,.ref 95,Iz 1051,Iz 22,.str qW 1052],#[]⟩:Yr)::(⟨.type vS,Y8,Gz (ni (cls<|ni TB 17) 0) BD "ParseMap.__missing__" (.str vI 289)<|.ref 96,#[]⟩:Yr)::o7::Oy P::(⟨.type Aj,Y8,.cls ⟨yd,[.type t0],[.ref 100,.type t0,.type zf],99,yd,Ye,[],[],Yc,Y8,Yc⟩,#[Y6<|.ref 84,Y8,Y6<|.str yd 1034,Y6<|.str yd 1042,Y6<|.builtin<|SL.s15987600418018006706x12,Y6<|.bool Ye]⟩:Yr)::(⟨.type zg,Y8,.fields #[.str zc 1055,.ref 100,.builtin CG,.builtin CH],#[]⟩:Yr)::(⟨.type zg,Y8,.fields #[.str zd 1057,.ref 100,.builtin CI,.none],#[]⟩:Yr)::(⟨.type EN,Y8,.fields #[.ref 100,.ref 100,.ref 100],#[]⟩:Yr)::(⟨.type xc,Y8,.fields #[.builtin<|SL.s4860613602091757760x24,.ref 100],#[]⟩:Yr)::t
def B8(P:Yq)(t:Yb Yr):Yb Yr:=(⟨.type<|SL.s13500813778147066322x18,Y8,.fields #[.none,i3],#[]⟩:Yr)::o7::o8::(⟨.type xX,Y8,.fields #[.str x0 1325,.str x0 1326,.str qW 1327,Iz 25,i1,i0,i0,Iz 35,.ref 113,.bool Ye,kD,.ref 114,.none,.none,.none,.none,Iz 1328,Iz 25,.str qW 1329],#[]⟩:Yr)::Oz P::(⟨.type ER,Y8,.fields #[i0,.str x0 1331,.str x0 1332],#[]⟩:Yr)::(⟨.type rn,Y8,.seq #[.str "'generator' object has no attribute 'keys'" 1334] 0,#[]⟩:Yr)::(⟨.type CF,Y8,.fields #[.ref 118,.none,.none,.none,.bool Yc,.none,.str "keys" 1335,.ref 117],#[]⟩:Yr)::(⟨.type rn,Y8,.seq #[Jz 40 1338,Jz 40 1340] 0,#[]⟩:Yr)::(⟨.type rn,Y8,.seq #[Jz 123 1344,Jz 40 1346] 0,#[]⟩:Yr)::(⟨.type rn,Y8,.seq #[Jz 91 1350,Jz 40 1352] 0,#[]⟩:Yr)::o7::(⟨.type yg,Y8,.fields #[.ref 123,.none,.none,.none,.bool Yc,.none],#[]⟩:Yr)::o7::(⟨.type yg,Y8,.fields #[.ref 125,.none,.none,.none,.bool Yc,.none],#[]⟩:Yr)::t
def BF(P:Yq)(t:Yb Yr):Yb Yr:=(⟨.type<|SL.s13500813778147066322x18,Y8,.fields #[.none,i3],#[]⟩:Yr)::o7::o8::(⟨.type xX,Y8,.fields #[.str x0 1355,.str x0 1356,.str qW 1357,Iz 26,i1,i0,i0,Iz 35,.ref 128,.bool Ye,kD,.ref 129,.none,.none,.none,.none,Iz 1358,Iz 26,.str qW 1359],#[]⟩:Yr)::OA P::(⟨.type ER,Y8,.fields #[i1,.str x0 1361,.str x0 1362],#[]⟩:Yr)::(⟨.type rn,Y8,.seq #[.str "'generator' object has no attribute 'keys'" 1364] 0,#[]⟩:Yr)::(⟨.type CF,Y8,.fields #[.ref 133,.none,.none,.none,.bool Yc,.none,.str "keys" 1365,.ref 132],#[]⟩:Yr)::(⟨.type rn,Y8,.seq #[Jz 41 1368,Jz 41 1370] 0,#[]⟩:Yr)::(⟨.type rn,Y8,.seq #[Jz 125 1374,Jz 41 1376] 0,#[]⟩:Yr)::(⟨.type rn,Y8,.seq #[Jz 93 1380,Jz 41 1382] 0,#[]⟩:Yr)::o7::(⟨.type yg,Y8,.fields #[.ref 138,.none,.none,.none,.bool Yc,.none],#[]⟩:Yr)::o7::(⟨.type yg,Y8,.fields #[.ref 140,.none,.none,.none,.bool Yc,.none],#[]⟩:Yr)::t
def CM(P:Yq)(t:Yb Yr):Yb Yr:=(⟨.type<|SL.s13500813778147066322x18,Y8,.fields #[.none,Iz 5],#[]⟩:Yr)::o7::o8::(⟨.type xX,Y8,.fields #[.str x0 1385,.str x0 1386,.str qW 1387,Iz 27,i1,i0,i0,Iz 35,.ref 143,.bool Ye,kD,.ref 144,.none,.none,.none,.none,Iz 1388,Iz 27,.str qW 1389],#[]⟩:Yr)::OB P::(⟨.type ER,Y8,.fields #[i2,.str x0 1391,.str x0 1392],#[]⟩:Yr)::(⟨.type rn,Y8,.seq #[.str "'generator' object has no attribute 'keys'" 1394] 0,#[]⟩:Yr)::(⟨.type CF,Y8,.fields #[.ref 148,.none,.none,.none,.bool Yc,.none,.str "keys" 1395,.ref 147],#[]⟩:Yr)::(⟨.type rn,Y8,.seq #[Jz 34 1398,Jz 34 1399] 0,#[]⟩:Yr)::(⟨.type rn,Y8,.seq #[Jz 39 1403,Jz 39 1404] 0,#[]⟩:Yr)::(⟨.type rn,Y8,.seq #[Jz 92 1408,Jz 92 1409] 0,#[]⟩:Yr)::(⟨.type rn,Y8,.seq #[Jz 10 1413,Jz 10 1414] 0,#[]⟩:Yr)::(⟨.type rn,Y8,.seq #[Jz 35 1418,Jz 35 1419] 0,#[]⟩:Yr)::o7::(⟨.type yg,Y8,.fields #[.ref 155,.none,.none,.none,.bool Yc,.none],#[]⟩:Yr)::o7::(⟨.type yg,Y8,.fields #[.ref 157,.none,.none,.none,.bool Yc,.none],#[]⟩:Yr)::t
def I9:Y9->Yb Yg->Yb Z0|_,[]=>[]|n,x::r=>.str x n::I9 (n+1) r
def vv(i:Y9)(x y:Yg)(n l:Y9)(a b:Z0)(k:Y9)(v:Yb Yg)(t:Yb Yr):Yb Yr:=o7::o8::(⟨.type rn,Y8,.seq ⟨I9 (n+3) v⟩ 0,#[]⟩:Yr)::o7::(⟨.none,Y8,Fz (ni (cls<|ni TB 22) i) x y,#[]⟩:Yr)::(⟨.type xX,Y8,.fields #[.str x n,.str y<|n+1,.str qW<|n+2,Iz l,a,i0,i0,b,.ref k,.bool Ye,kD,.ref<|k+1,.none,.ref<|k+2,.ref<|k+3,.ref<|k+4,Iz<|n+3+v.length,Iz l,.str qW<|n+4+v.length],#[]⟩:Yr)::(⟨.type vS,Y8,Gz (ni (cls<|ni TB 22) i) x y (.str vI 289)<|.ref<|k+5,#[]⟩:Yr)::t
def F9(P:Yq)(t:Yb Yr):Yb Yr:=o7::(⟨.type xc,Y8,.fields #[.builtin<|SL.s10062305145149207511x16,.type Aj],#[]⟩:Yr)::OD P::o7::(⟨.none,Y8,.fields #[Iz 30,i4,.ref 171,Iz 34,i4,.ref 178,Iz 39,i4,.ref 185,Iz 64,i4,.ref 192,Iz 69,i4,.ref 199,Iz 154,i4,.ref 206,Iz 158,i4,.ref 213,Iz 231,i4,.ref 220,Iz 254,i4,.ref 227,Iz 259,i4,.ref 234,Iz 296,i4,.ref 241,Iz 305,i4,.ref 248,Iz 308,i4,.ref 255,Iz 312,i4,.ref 262],#[]⟩:Yr)::(⟨.type xX,Y8,.fields #[.str ye 1423,.str ye 1424,.str qW 1425,Iz 28,i0,i0,i0,i0,.ref 162,.bool Yc,kD,.ref 163,.none,.none,.none,.none,Iz 1426,Iz 28,.str qW 1427],#[]⟩:Yr)::(⟨.type Ak,Y8,.plain,#[Y6<|.ref 164,Y6<|.ref 3,Y6<|.ref 161,Y8,Y6<|.str vI 289,Y8,Y6<|.ref 0]⟩:Yr)::vv 0 Cy "Parser.__init__" 1433 30 i3 i3 166 [yQ,"indentwidth","tabwidth"] (vv 1 Ez "Parser.set_code" 1442 34 i2 i3 173 [yQ,"s"]<|vv 2 EA "Parser.find_good_parse_start" 1450 39 i2 i3 180 [yQ,"is_char_in_string",Ad,"pos","limit","tries",B6,"m","s"]<|vv 3 EB "Parser.set_lo" 1465 64 i2 i3 187 [yQ,"lo"]<|vv 4 EC "Parser._study1" 1473 69 i1 i3 194 [yQ,Ad,"continuation","level","lno",CE,"push_good",B6,"n","ch","quote","firstlno","w"]<|vv 5 ED "Parser.get_continuation_type" 1492 154 i1 i3 201 [yQ]<|vv 6 EE "Parser._study2" 1499 158 i1 i3 208 [yQ,Ad,CE,B6,"p","q","nothing","lastch","stack","push_stack","bracketing","m","newp","ch"]<|vv 7 EF "Parser.compute_bracket_indent" 1519 231 i1 i3 215 [yQ,"j",Ad,"n","origi",B6,"m","extra"]<|vv 8 EG "Parser.get_num_lines_in_stmt" 1533 254 i1 i3 222 [yQ,CE]<|vv 9 EH "Parser.compute_backslash_indent" 1541 259 i1 i3 229 [yQ,Ad,B6,"startpos","endpos","found","level","ch"]<|vv 10 EI "Parser.get_base_indent_string" 1555 296 i1 i3 236 [yQ,B6,"n","j",Ad]<|vv 11 EJ "Parser.is_block_opener" 1566 305 i1 i3 243 [yQ]<|vv 12 EK "Parser.is_block_closer" 1573 308 i1 i3 250 [yQ]<|vv 13 EL "Parser.get_last_stmt_bracketing" 1580 312 i1 i3 257 [yQ]<|(⟨.type rn,Y8,.seq #[.str Ad 1587,.str "continuation" 1588,.str CE 1589,.str "indentwidth" 1590,.str "lastch" 1591,.str "lastopenbracketpos" 1592,.str "stmt_bracketing" 1593,.str "stmt_end" 1594,.str "stmt_start" 1595,.str "study_level" 1596,.str "tabwidth" 1597] 0,#[]⟩:Yr)::OE P::(⟨.type Aj,Y8,.cls ⟨ye,[.type zf],[.ref 266,.type zf],265,ye,Ye,[],[],Yc,Y8,Yc⟩,#[Y8,Y8,Y6<|.str ye 1421,Y6<|.str ye 1429,Y6<|.builtin<|SL.s11443829558043349243x14,Y6<|.bool Ye]⟩:Yr)::(⟨.type zg,Y8,.fields #[.str zc 1599,.ref 266,.builtin CG,.builtin CH],#[]⟩:Yr)::(⟨.type zg,Y8,.fields #[.str zd 1601,.ref 266,.builtin CI,.none],#[]⟩:Yr)::(⟨.type EN,Y8,.fields #[.ref 266,.ref 266,.ref 266],#[]⟩:Yr)::(⟨.type xc,Y8,.fields #[.builtin<|SL.s4860613602091757760x24,.ref 266],#[]⟩:Yr)::t)
def Ib(P:Yq)(t:Yb Yr):Yb Yr:=o7::o8::(⟨.none,Y8,Fz (ni TB 24) Ae Ae,#[]⟩:Yr)::(⟨.type xX,Y8,.fields #[.str Ae 1608,.str Ae 1609,.str qW 1610,Iz 316,i1,i0,i0,i3,.ref 271,.bool Ye,kD,.ref 272,.none,.none,.none,.ref 273,Iz 1611,Iz 316,.str qW 1612],#[]⟩:Yr)::(⟨.type vS,Y8,Gz (ni TB 24) Ae Ae (.str B7 1606)<|.ref 274,#[]⟩:Yr)::o7::o8::(⟨.type rn,Y8,.seq #[.str "row" 1617,.str "bare" 1618,.str "end" 1619] 0,#[]⟩:Yr)::o7::(⟨.none,Y8,Fz (ni TB 25) Af Af,#[]⟩:Yr)::(⟨.type xX,Y8,.fields #[.str Af 1614,.str Af 1615,.str qW 1616,Iz 321,i1,i0,i0,i3,.ref 276,.bool Ye,kD,.ref 277,.none,.ref 278,.ref 279,.ref 280,Iz 1620,Iz 321,.str qW 1621],#[]⟩:Yr)::(⟨.type vS,Y8,Gz (ni TB 25) Af Af (.str B7 1606)<|.ref 281,#[]⟩:Yr)::o7::o8::(⟨.none,Y8,Fz (ni TB 26) Ag Ag,#[]⟩:Yr)::(⟨.type xX,Y8,.fields #[.str Ag 1623,.str Ag 1624,.str qW 1625,Iz 327,i3,i0,i0,i3,.ref 283,.bool Ye,kD,.ref 284,.none,.none,.none,.ref 285,Iz 1626,Iz 327,.str qW 1627],#[]⟩:Yr)::(⟨.type vS,Y8,Gz (ni TB 26) Ag Ag (.str B7 1606)<|.ref 286,#[]⟩:Yr)::o7::o8::(⟨.none,Y8,Fz (ni TB 27) Ah Ah,#[]⟩:Yr)::(⟨.type xX,Y8,.fields #[.str Ah 1629,.str Ah 1630,.str qW 1631,Iz 342,i2,i0,i0,i3,.ref 288,.bool Ye,kD,.ref 289,.none,.none,.none,.ref 290,Iz 1632,Iz 342,.str qW 1633],#[]⟩:Yr)::(⟨.type vS,Y8,Gz (ni TB 27) Ah Ah (.str B7 1606)<|.ref 291,#[]⟩:Yr)::o7::o8::(⟨.none,Y8,Fz (ni TB 28) Ai Ai,#[]⟩:Yr)::(⟨.type xX,Y8,.fields #[.str Ai 1635,.str Ai 1636,.str qW 1637,Iz 349,i1,i0,i0,i3,.ref 293,.bool Ye,kD,.ref 294,.none,.none,.none,.ref 295,Iz 1638,Iz 349,.str qW 1639],#[]⟩:Yr)::(⟨.type vS,Y8,Gz (ni TB 28) Ai Ai (.str B7 1606)<|.ref 296,#[]⟩:Yr)::t
def L0(P:Yq):Yb Yr:=[o0 P,o1 P,o2 P,o3 P,o4,o5,o6,o7,o8,o9,ES,I1 P,ET,EU P,EV,o7,EW,EX,EY,EZ,F0 P,F1 P,F3,F4,F5,F6,F7,F8]
def S0(w:YB)(os:YI):YO:=⟨bt 12<|L0 w.params,28,{},#[],⟨0,0,0,0⟩,276,os⟩
def L1(P:Yq):Yb Yr:=LA P (o3 P) o8<|[]
def S1(w:YB)(os:YI):YO:=⟨bt 12<|L1 w.params,32,{},#[],⟨0,0,0,0⟩,282,os⟩
def L2(P:Yq):Yb Yr:=LA P (o3 P) o8<|[]
def S2(w:YB)(os:YI):YO:=⟨bt 12<|L2 w.params,32,{},#[],⟨0,0,0,0⟩,282,os⟩
def L3(P:Yq):Yb Yr:=LA P (Os P) CJ<|tJ P []
def S3(w:YB)(os:YI):YO:=⟨bt 12<|L3 w.params,49,{},#[],⟨0,0,0,0⟩,549,os⟩
def L4(P:Yq):Yb Yr:=LA P (Ot P) CJ<|tJ P<|tN P []
def S4(w:YB)(os:YI):YO:=⟨bt 12<|L4 w.params,59,{},#[],⟨0,0,0,0⟩,858,os⟩
def L5(P:Yq):Yb Yr:=LA P (Ou P) CJ<|tJ P<|tN P<|tX P []
def S5(w:YB)(os:YI):YO:=⟨bt 12<|L5 w.params,74,{},#[],⟨0,0,0,0⟩,1009,os⟩
def L6(P:Yq):Yb Yr:=LA P (Ow P) CJ<|tJ P<|tN P<|tX P<|ud P []
def S6(w:YB)(os:YI):YO:=⟨bt 12<|L6 w.params,84,{},#[],⟨0,0,0,0⟩,1034,os⟩
def L7(P:Yq):Yb Yr:=LA P (y9 P) xe<|tJ P<|tN P<|tX P<|ud P<|uf P []
def S7(w:YB)(os:YI):YO:=⟨bt 12<|L7 w.params,105,{},#[],⟨0,0,0,0⟩,1062,os⟩
def L8(P:Yq):Yb Yr:=LA P (y9 P) xe<|tJ P<|tN P<|tX P<|ud P<|uf P<|[uv,uw,o6,(⟨.ref 100,Y6 107,.dict #[] 0,#[]⟩:Yr),(⟨.type y8,Y8,.fields #[i0,Iz 128,i1],#[]⟩:Yr)]
def S8(w:YB)(os:YI):YO:=⟨bt 12<|L8 w.params,110,{},#[],⟨0,0,0,0⟩,1067,os⟩
def L9(P:Yq):Yb Yr:=LA P (y9 P) xe<|tJ P<|tN P<|tX P<|ud P<|uf P<|[uv,uw,o6,(⟨.ref 100,Y6 107,.dict ⟨TE 0 1067 [] 16⟩ 16,#[]⟩:Yr),(⟨.type y8,Y8,.fields #[Iz 16,Iz 112,i1],#[]⟩:Yr)]
def S9(w:YB)(os:YI):YO:=⟨bt 12<|L9 w.params,110,{},#[],⟨0,0,0,0⟩,1099,os⟩
def OG(P:Yq):Yb Yr:=LA P (y9 P) xe<|tJ P<|tN P<|tX P<|ud P<|uf P<|[uv,uw,o6,(⟨.ref 100,Y6 107,.dict ⟨TE 0 1067 [] 32⟩ 32,#[]⟩:Yr),(⟨.type y8,Y8,.fields #[Iz 32,Iz 96,i1],#[]⟩:Yr)]
def Ic(w:YB)(os:YI):YO:=⟨bt 12<|OG w.params,110,{},#[],⟨0,0,0,0⟩,1131,os⟩
def OH(P:Yq):Yb Yr:=LA P (y9 P) xe<|tJ P<|tN P<|tX P<|ud P<|uf P<|[uv,uw,o6,(⟨.ref 100,Y6 107,.dict ⟨TE 0 1067 [] 48⟩ 48,#[]⟩:Yr),(⟨.type y8,Y8,.fields #[Iz 48,Iz 80,i1],#[]⟩:Yr)]
def Id(w:YB)(os:YI):YO:=⟨bt 12<|OH w.params,110,{},#[],⟨0,0,0,0⟩,1163,os⟩
def OI(P:Yq):Yb Yr:=LA P (y9 P) xe<|tJ P<|tN P<|tX P<|ud P<|uf P<|[uv,uw,o6,(⟨.ref 100,Y6 107,.dict ⟨TE 0 1067 [] 64⟩ 64,#[]⟩:Yr),(⟨.type y8,Y8,.fields #[Iz 64,Iz 64,i1],#[]⟩:Yr)]
def Ie(w:YB)(os:YI):YO:=⟨bt 12<|OI w.params,110,{},#[],⟨0,0,0,0⟩,1195,os⟩
def OJ(P:Yq):Yb Yr:=LA P (y9 P) xe<|tJ P<|tN P<|tX P<|ud P<|uf P<|[uv,uw,o6,(⟨.ref 100,Y6 107,.dict ⟨TE 0 1067 [] 80⟩ 80,#[]⟩:Yr),(⟨.type y8,Y8,.fields #[Iz 80,Iz 48,i1],#[]⟩:Yr)]
def Ig(w:YB)(os:YI):YO:=⟨bt 12<|OJ w.params,110,{},#[],⟨0,0,0,0⟩,1227,os⟩
def OK(P:Yq):Yb Yr:=LA P (y9 P) xe<|tJ P<|tN P<|tX P<|ud P<|uf P<|[uv,uw,o6,(⟨.ref 100,Y6 107,.dict ⟨TE 0 1067 [] 96⟩ 96,#[]⟩:Yr),(⟨.type y8,Y8,.fields #[Iz 96,Iz 32,i1],#[]⟩:Yr)]
def Ih(w:YB)(os:YI):YO:=⟨bt 12<|OK w.params,110,{},#[],⟨0,0,0,0⟩,1259,os⟩
def OL(P:Yq):Yb Yr:=LA P (y9 P) xe<|tJ P<|tN P<|tX P<|ud P<|uf P<|[uv,uw,o6,(⟨.ref 100,Y6 107,.dict ⟨TE 0 1067 [] 112⟩ 112,#[]⟩:Yr),(⟨.type y8,Y8,.fields #[Iz 112,Iz 16,i1],#[]⟩:Yr)]
def Ii(w:YB)(os:YI):YO:=⟨bt 12<|OL w.params,110,{},#[],⟨0,0,0,0⟩,1291,os⟩
def OM(P:Yq):Yb Yr:=LA P (y9 P) xe<|tJ P<|tN P<|tX P<|ud P<|uf P<|[uv,uw,o6,(⟨.ref 100,Y6 107,.dict ⟨TE 0 1067 [] 128⟩ 128,#[]⟩:Yr),zh]
def CN(w:YB)(os:YI):YO:=⟨bt 12<|OM w.params,110,{},#[],⟨0,0,0,0⟩,1323,os⟩
def ON(P:Yq):Yb Yr:=LA P (CK P) xe<|tJ P<|tN P<|tX P<|ud P<|uf P<|uv::uw::o6::(⟨.ref 100,Y6 107,.dict ⟨TE 0 1067 [] 128⟩ 128,#[]⟩:Yr)::zh::[o7,An]
def CO(w:YB)(os:YI):YO:=⟨bt 12<|ON w.params,112,{},#[],⟨0,0,0,0⟩,1324,os⟩
def OO(P:Yq):Yb Yr:=LA P (CK P) (⟨.none,Y8,.fields #[i2,i0,.ref 37,Iz 20,i0,.ref 89,Iz 25,uu,.ref 115],#[]⟩:Yr)<|tJ P<|tN P<|tX P<|ud P<|uf P<|uv::uw::o6::(⟨.ref 100,Y6 107,.dict ⟨TE 0 1067 (e0::TE 41 1149 (e1::TE 92 1251 (e2::TE 124 1315 [] 4) 31) 50) 40⟩ 128,#[]⟩:Yr)::zh::o7::An::B8 P []
def Ij(w:YB)(os:YI):YO:=⟨bt 12<|OO w.params,127,{},#[Yo],⟨0,0,0,0⟩,1354,os⟩
def OP(P:Yq):Yb Yr:=LA P (CK P) (⟨.none,Y8,.fields #[i2,i0,.ref 37,Iz 20,i0,.ref 89,Iz 25,uu,.ref 115,Iz 26,uu,.ref 130],#[]⟩:Yr)<|tJ P<|tN P<|tX P<|ud P<|uf P<|uv::uw::o6::(⟨.ref 100,Y6 107,.dict ⟨TE 0 1067 (e0::⟨.ofNat 41,Jz 41 1149,Jz 41 1370⟩::TE 42 1151 (e1::⟨.ofNat 92,Jz 92 1251,Jz 120 1066⟩::⟨.ofNat 93,Jz 93 1253,Jz 41 1382⟩::TE 94 1255 (e2::⟨.ofNat 124,Jz 124 1315,Jz 120 1066⟩::⟨.ofNat 125,Jz 125 1317,Jz 41 1376⟩::⟨.ofNat 126,Jz 126 1319,Jz 120 1066⟩::⟨.ofNat 127,Jz 127 1321,Jz 120 1066⟩::[]) 29) 49) 40⟩ 128,#[]⟩:Yr)::zh::o7::An::B8 P (BF P [])
def Ik(w:YB)(os:YI):YO:=⟨bt 12<|OP w.params,142,{},#[Yo,Yo],⟨0,0,0,0⟩,1384,os⟩
def OQ(P:Yq):Yb Yr:=LA P (CK P) (⟨.none,Y8,.fields #[i2,i0,.ref 37,Iz 20,i0,.ref 89,Iz 25,uu,.ref 115,Iz 26,uu,.ref 130,Iz 27,uu,.ref 145],#[]⟩:Yr)<|tJ P<|tN P<|tX P<|ud P<|uf P<|uv::uw::o6::CL::zh::o7::An::B8 P (BF P<|CM P [])
def Il(w:YB)(os:YI):YO:=⟨bt 12<|OQ w.params,159,{},#[Yo,Yo,Yo],⟨0,0,0,0⟩,1421,os⟩
def OS(P:Yq):Yb Yr:=LA P (OC P) (⟨.none,Y8,.fields #[i2,i0,.ref 37,Iz 20,i0,.ref 89,Iz 25,uu,.ref 115,Iz 26,uu,.ref 130,Iz 27,uu,.ref 145,Iz 28,i0,.ref 164],#[]⟩:Yr)<|tJ P<|tN P<|tX P<|ud P<|uf P<|uv::uw::o6::CL::zh::o7::An::B8 P (BF P<|CM P<|F9 P [])
def Im(w:YB)(os:YI):YO:=⟨bt 12<|OS w.params,271,{},#[Yo,Yo,Yo],⟨0,0,0,0⟩,1606,os⟩
def OT(P:Yq):Yb Yr:=LA P (I8 P) (⟨.none,Y8,.fields #[i2,i0,.ref 37,Iz 20,i0,.ref 89,Iz 25,uu,.ref 115,Iz 26,uu,.ref 130,Iz 27,uu,.ref 145,Iz 28,i0,.ref 164,Iz 316,i0,.ref 274,Iz 321,i0,.ref 281,Iz 327,i0,.ref 286,Iz 342,i0,.ref 291,Iz 349,i0,.ref 296],#[]⟩:Yr)<|tJ P<|tN P<|tX P<|ud P<|uf P<|uv::uw::o6::CL::zh::o7::An::B8 P (BF P<|CM P<|F9 P<|Ib P [])
def Fa(w:YB)(os:YI):YO:=⟨bt 12<|OT w.params,298,{},#[Yo,Yo,Yo],⟨0,0,0,0⟩,1641,os⟩
def Fb(P:Yq):Yb Yr:=LA P (I8 P) (⟨.none,Y8,.fields #[i2,i0,.ref 37,Iz 20,i0,.ref 89,Iz 25,uu,.ref 115,Iz 26,uu,.ref 130,Iz 27,uu,.ref 145,Iz 28,i0,.ref 164,Iz 316,i0,.ref 274,Iz 321,i0,.ref 281,Iz 327,i0,.ref 286,Iz 342,i0,.ref 291,Iz 349,i0,.ref 296],#[]⟩:Yr)<|tJ P<|tN P<|tX P<|ud P<|uf P<|uv::uw::o6::CL::zh::o7::An::B8 P (BF P<|CM P<|F9 P<|Ib P [])
def Fc(w:YB)(os:YI):YO:=⟨bt 12<|Fb w.params,298,{},#[Yo,Yo,Yo],⟨0,0,0,0⟩,1641,os⟩
theorem ux{P:YB->Prop}(h:∀w:YB,P<|w.withFollow "special-get-raises" Yc:=by intro w;kernel_rfl)(k:∀w:YB,P<|w.withFollow "special-get-raises" Ye:=by intro w;kernel_rfl):∀w,P w:=byRow2 "special-get-raises" h k
def xf(n:Y9)(S:YB->YI->YO)(l:Yb YW)(c:ZR)(T:YB->YI->YO)(d:ZR):Prop:=∀w:YB,(λos=>Zp Yu Ym w 28 (Y6<|.ref 6) 1 n (S w os)<|kM l c)=λos=>Y6 (.next,T w os,cE,d)
theorem ya{n:Y9}{S T:YB->YI->YO}{l:Yb YW}{c d:ZR}(h:xf n S l c T d)(w:YB)(os:YI):segRun Z2 Ym w 28 (Y6<|.ref 6) 1 n (S w os).abs (piecesOf l env cE c [Za q])=Y6 (.next,(T w os).abs,cE,d):=segRun_of<|(by rw[vD,te10110043849684766642,YQ]:_=Zp Yu Ym w 28 (Y6<|.ref 6) 1 n (S w os) (kM l c)).trans<|congrFun (h w) os
theorem f0:xf 383 S2 l0 ⟨0,0,0,0⟩ S3 ⟨7,0,7,10⟩:=λw=>by kernel_rfl
theorem f1:xf 396 S3 l1 ⟨7,0,7,10⟩ S4 ⟨9,0,9,10⟩:=λw=>by kernel_rfl
theorem f2:xf 281 S4 l2 ⟨9,0,9,10⟩ S5 ⟨12,0,12,10⟩:=λw=>by kernel_rfl
theorem f3:xf 314 S5 l3 ⟨12,0,12,10⟩ S6 ⟨19,0,19,16⟩:=ux
theorem f4:xf 226 S6 l4 ⟨19,0,19,16⟩ S7 ⟨20,0,23,18⟩:=λw=>by kernel_rfl
def zN(w:YB)(os:YI):Thread:=match Z1 Yu Ym (World.withFollow w "special-get-raises" Yc) 28 (Y6<|.ref 6) 1 113 (S7 (World.withFollow w "special-get-raises" Yc) os)<|kM l5 ⟨20,0,23,18⟩with|some (_,t)=>t|none=>kM l5 ⟨20,0,23,18⟩
theorem OU:∀w:YB,(λos=>Z1 Yu Ym w 28 (Y6<|.ref 6) 1 113 (S7 w os)<|kM l5 ⟨20,0,23,18⟩)=λos=>Y6 (S8 w os,zN w os):=ux
variable(w:YB)(os:YI)
theorem OV:segGo Z2 Ym w 28 (Y6<|.ref 6) 1 113 (S7 w os).abs (piecesOf l5 env cE ⟨20,0,23,18⟩ [Za q])=Y6 ((S8 w os).abs,zN w os):=segGo_of<|(by rw[vD,te10295753902157049106,YQ]:_=Z1 Yu Ym w 28 (Y6<|.ref 6) 1 113 (S7 w os) (kM l5 ⟨20,0,23,18⟩)).trans<|congrFun (OU w) os
def GRq(S T:YB->YI->YO):Prop:=∀w:YB,(λos=>Z1 Yu Ym w 28 (Y6<|.ref 6) 1 640 (S w os)<|zN w os)=λos=>Y6 (T w os,zN w os)
theorem zi{S T:YB->YI->YO}(h:GRq S T)(w:YB)(os:YI):segGo Z2 Ym w 28 (Y6<|.ref 6) 1 640 (S w os).abs (zN w os)=Y6 ((T w os).abs,zN w os):=segGo_of<|(by rw[te10295753902157049106,YQ]:_=Z1 Yu Ym w 28 (Y6<|.ref 6) 1 640 (S w os) (zN w os)).trans<|congrFun (h w) os
theorem OW:GRq S8 S9:=ux
theorem OX:GRq S9 Ic:=ux
theorem OY:GRq Ic Id:=ux
theorem OZ:GRq Id Ie:=ux
theorem P0:GRq Ie Ig:=ux
theorem P1:GRq Ig Ih:=ux
theorem P2:GRq Ih Ii:=ux
theorem P3:GRq Ii CN:=ux
theorem P4:∀w:YB,(λos=>Zp Yu Ym w 28 (Y6<|.ref 6) 1 23 (CN w os)<|zN w os)=λos=>Y6 (.next,CO w os,cE,⟨24,0,24,5⟩):=λw=>by kernel_rfl
theorem P5:segRun Z2 Ym w 28 (Y6<|.ref 6) 1 23 (CN w os).abs (zN w os)=Y6 (.next,(CO w os).abs,cE,⟨24,0,24,5⟩):=segRun_of<|(by rw[te10110043849684766642,YQ]:_=Zp Yu Ym w 28 (Y6<|.ref 6) 1 23 (CN w os) (zN w os)).trans<|congrFun (P4 w) os
theorem p5:segRun Z2 Ym w 28 (Y6<|.ref 6) 1 (113+(640+(640+(640+(640+(640+(640+(640+(640+23))))))))) (S7 w os).abs (piecesOf l5 env cE ⟨20,0,23,18⟩ [Za q])=Y6 (.next,(CO w os).abs,cE,⟨24,0,24,5⟩):=seg_go (OV w os)<|seg_go (zi OW w os)<|seg_go (zi OX w os)<|seg_go (zi OY w os)<|seg_go (zi OZ w os)<|seg_go (zi P0 w os)<|seg_go (zi P1 w os)<|seg_go (zi P2 w os)<|seg_go (zi P3 w os)<|P5 w os
theorem f6:xf 367 CO l6 ⟨24,0,24,5⟩ Ij ⟨25,0,25,49⟩:=byRow2 "comprehension-iter-twice" ux ux
theorem f7:xf 367 Ij l7 ⟨25,0,25,49⟩ Ik ⟨26,0,26,49⟩:=byRow2 "comprehension-iter-twice" ux ux
theorem f8:xf 522 Ik l8 ⟨26,0,26,49⟩ Il ⟨27,0,27,52⟩:=byRow2 "comprehension-iter-twice" ux ux
theorem f9:xf 691 Il l9 ⟨27,0,27,52⟩ Im ⟨28,0,314,35⟩:=λw=>by kernel_rfl
theorem P6:xf 145 Im x6 ⟨28,0,314,35⟩ Fa ⟨349,0,378,96⟩:=λw=>by kernel_rfl
theorem Fd:∀w:YB,(λos=>tw15667345088766844465 Yu Ym w 28 (Y6<|.ref 6) 12 (S0 w os).abs<|topStub Ym)=λos=>Y6 ((S1 w os).abs,⟨tw11892475500146522536 Yu cE,cE,⟨0,0,0,0⟩,[Za q]⟩):=λw=>by kernel_rfl
theorem Ao:∀w:YB,(λos=>tw14374325043358763698 Yu Ym w 28 (Y6<|.ref 6) 1 1 (S1 w os).abs<|⟨PySem.Sem.wrap (λ_=>doneF .next) deadEnd id id<|tw1066825118222455980 bE env,cE,⟨0,0,0,0⟩,[Za q]⟩)=λos=>Y6 (.next,(S2 w os).abs,cE,⟨0,0,0,0⟩):=λw=>by kernel_rfl
theorem Fe:∀w:YB,(λos=>tw14082659384304107361 Yu Ym w 28 (Y6<|.ref 6) 2 (Fa w os).abs<|⟨doneF .next,cE,⟨349,0,378,96⟩,[Za q]⟩)=λos=>Y6<|(Fc w os).abs:=λw=>by kernel_rfl
def zj:Yb YF:=[2,3,32,34,35,37,38,42,43,47,48,52,53,57,58,62,63,67,68,72,73,78,79,80,81,82,83,84,91,93,94,96,97,98,99,100,101,102,107,108,166,168,169,171,172,173,175,176,178,179,180,182,183,185,186,187,189,190,192,193,194,196,197,199,200,201,203,204,206,207,208,210,211,213,214,215,217,218,220,221,222,224,225,227,228,229,231,232,234,235,236,238,239,241,242,243,245,246,248,249,250,252,253,255,256,257,259,260,262,263,264,265,266,267,268,271,274,275,276,278,279,281,282,283,286,287,288,291,292,293,296,297]
def Io:Yb Yr->Y9->Yr|[],_=>o7|x::_,0=>x|_::t,n+1=>Io t n
def K(P:Yq):L_:=zj.map λa=>(a,Io (Fb P) a)
def qv:Program:=view Ym [0,1,3,4,5,6,7,8,9,10,11,12,13,14,15,16,17,18,22,24,25,26,27,28]
def loose:Yb Yg:=[Ei,Ej,Ek,El,Em,En,Eo,Cz,CA,CB,CC,CD,Ep,Er,Es,Et,Eu,Ev,Ew]
def lv:Yb<|Str×WData:=[(Cz,g_ 0),(CA,g_ 1),(CB,g_ 2),(CC,g_ 3),(CD,g_ 4)]
theorem Ff:topGo Z2 Ym w 28 (Y6<|.ref 6) 12 (S0 w os).abs (topStub Ym)=Y6 ((S1 w os).abs,⟨denote Z2<|.body bE env,cE,⟨0,0,0,0⟩,[Za q]⟩):=by rw[te15667345088766844465,te11892475500146522536,YQ];exact congrFun (Fd w) os
theorem Ap:segRun Z2 Ym w 28 (Y6<|.ref 6) 1 1 (S1 w os).abs (blockOf bE env cE ⟨0,0,0,0⟩ [Za q])=Y6 (.next,(S2 w os).abs,cE,⟨0,0,0,0⟩):=by show segRun Z2 Ym w 28 (Y6<|.ref 6) 1 1 (S1 w os).abs (⟨(blockStart bE env).wrap (λ_=>doneF .next) deadEnd id id,cE,⟨0,0,0,0⟩,[Za q]⟩)=_;rw[te14374325043358763698,te1066825118222455980,YQ];exact congrFun (Ao w) os
theorem Fg:topRun Z2 Ym w 28 (Y6<|.ref 6) 2 (Fa w os).abs ⟨doneF .next,cE,⟨349,0,378,96⟩,[Za q]⟩=Y6 (Fc w os).abs:=by rw[te14082659384304107361,YQ];exact congrFun (Fe w) os
theorem run:topRun Z2 Ym w 28 (Y6<|.ref 6) (12+(1+(383+(396+(281+(314+(226+(113+(640+(640+(640+(640+(640+(640+(640+(640+23))))))))+(367+(367+(522+(691+(145+2))))))))))))) (S0 w os).abs (topStub Ym)=Y6 (Fc w os).abs:=by have F:=piece_nil (env:=env)<|Fg w os;have u:=Zd (rest:=([]:Yb YW)) (ya P6 w os) F;have N:=Zd (rest:=x6++([]:Yb YW)) (ya f9 w os) u;have V:=Zd (rest:=l9++(x6++([]:Yb YW))) (ya f8 w os) N;have X:=Zd (rest:=l8++(l9++(x6++([]:Yb YW)))) (ya f7 w os) V;have O:=Zd (rest:=l7++(l8++(l9++(x6++([]:Yb YW))))) (ya f6 w os) X;have U:=Zd (rest:=l6++(l7++(l8++(l9++(x6++([]:Yb YW)))))) (p5 w os) O;have I:=Zd (rest:=l5++(l6++(l7++(l8++(l9++(x6++([]:Yb YW))))))) (ya f4 w os) U;have L:=Zd (rest:=l4++(l5++(l6++(l7++(l8++(l9++(x6++([]:Yb YW)))))))) (ya f3 w os) I;have S:=Zd (rest:=l3++(l4++(l5++(l6++(l7++(l8++(l9++(x6++([]:Yb YW))))))))) (ya f2 w os) L;have T:=Zd (rest:=l2++(l3++(l4++(l5++(l6++(l7++(l8++(l9++(x6++([]:Yb YW)))))))))) (ya f1 w os) S;have J:=Zd (rest:=l1++(l2++(l3++(l4++(l5++(l6++(l7++(l8++(l9++(x6++([]:Yb YW))))))))))) (ya f0 w os) T;exact go_top (Ff w os)<|piece_block (Ap w os) J
def H0(P:Yq):Heap:=absHeap (bt 12<|L0 P) 28 {}
def HE(P:Yq):Heap:=absHeap (bt 12<|[o0 P,o1 P,o2 P,o3 P,o4,o5,o6,o7,o8,o9,ES,OF P,ET,EU P,EV,o7,EW,EX,EY,EZ,F0 P,F1 P,F3,F4,F5,F6,F7,F8]) 28 {}
def H1(P:Yq):Heap:=absHeap (bt 12<|Fb P) 298 {}
theorem BH:∀w:YB,tw10274390034422433532 Yu (opening Ym) w 799 (a_<|opening Ym).1 (a_<|opening Ym).2=Y6 ⟨HE w.params,#[],⟨0,0,0,0⟩,276,(a_<|opening Ym).1.os⟩:=λw=>by kernel_rfl
theorem Aq:∀w:YB,(λos=>(tw14289696077712309145 Ym ⟨HE w.params,#[],⟨0,0,0,0⟩,276,os⟩).map<|λs=>(s.heap,s.gens,s.drawn,s.toks))=λ_=>Y6 (H0 w.params,#[],⟨0,0,0,0⟩,276):=λw=>by kernel_rfl
theorem BI:∀w:YB,(fencedOpening Z2 Ym w 40000).map (λs=>(s.heap,s.gens,s.drawn,s.toks))=Y6 (H0 w.params,#[],⟨0,0,0,0⟩,276):=open_cut (M:=799) (He:=HE) (ge:=#[]) (de:=⟨0,0,0,0⟩) (ke:=276) (λw=>by rw[te10274390034422433532,te1435165496053646825,YQ];exact BH w) Y7<|λw=>by rw[te14289696077712309145];exact Aq w
theorem BJ:∀w:YB,((H0 w.params).isNs G_&&(#[]:Yp GenState).size==0,(H0 w.params).objs.size,(H0 w.params).nsMap G_ "__annotations__")=(Ye,28,(Y6<|.ref 6:Yd Z0)):=λw=>by rw[te8920871248978507458];kernel_rfl
def Xt(s:ZQ):Yj:=xlAt qv lv s&&recOk (RowW.records<|OpenRow.toRowW YN.row) s
def Yf(s:ZQ):Yb<|Option Yr:=zj.map s.heap.get?
def Ya(w:YB):Yb<|Option Yr:=(K w.params).map λp=>Y6 p.2
theorem P8:staticsOk (importedModules Ym.main.body) (H0 w.params) (H1 w.params)&&namesBound Ym (H1 w.params)&&gensDone ⟨H1 w.params,#[Yo,Yo,Yo],⟨0,0,0,0⟩,1641,os⟩&&laidKept (H0 w.params) (H1 w.params):=by rw[te5923862056798008813];kernel_rfl
theorem P9:openSeen qv loose (importedModules Ym.main.body) Xt Yc ⟨H1 w.params,#[Yo,Yo,Yo],⟨0,0,0,0⟩,1641,os⟩=openGood qv loose:=by rw[te4187177175401517315,te5923862056798008813];kernel_rfl
theorem Pa:Yf ⟨H1 w.params,#[Yo,Yo,Yo],⟨0,0,0,0⟩,1641,os⟩=Ya w:=by kernel_rfl
theorem left:LeftO Ym qv loose Xt Yf Ya 40000 Yc:=LeftO.of_pieces (H₀:=H0) (H₁:=H1) (m₀:=28) (ann:=Y6<|.ref 6) BI BJ run (by decide)<|λw=>funext λos=>looks_pair (P8 w os)<|looks_pair (P9 w os)<|Pa w os
end MineTop
namespace MineTop
open PySem PySem.W PyProof.Rows PySem.Calls
def Ar(c:ClaimW)(cl:Yg->Yd YF)(mean:ExcName->Yd Z0)(args:Yb WData)(a9:ZQ)(r:Result)(s':ZQ):Prop:=GoodWG c cl mean args a9 r s'/\s'.gens=#[]
theorem Ip{c:ClaimW}{u a9 s':ZQ}{args:Yb WData}{vs:Yb Z0}{as:Yb YF}{r:Result}(hs:c.same=Y8)(X:c.within=[])(hi:∀a b,c.ident a b)(L:ReadsAllW c.records (classAt u.heap) a9.heap vs args as)(F:∀a∈as,∃o,a9.heap.get? a=Y6 o)(U:a9.os=u.os)(g:Ar c (classAt u.heap) (u_ u.heap) args {a9 with gens:=#[]} r s'):c.Ends u args vs a9 r s'/\s'.os=u.os/\s'.gens=#[]:=by
 obtain⟨⟨h1,K,h2,_⟩,h3⟩:=g;refine⟨?_,h2.trans U,h3⟩;rcases h1 with⟨v,d,bs,rfl,n,S,p,I⟩|⟨e,N,cls,rfl,e1,e2,T,Y⟩;.refine .inl ⟨v,Y7,n,⟨d,args,bs,as,S,L.keepsK λb o q z=>K.get_of_cls q z,p,λq=>⟨(I q).1,(I q).2,λa V O=>?_⟩,λ_ _=>hi _ _⟩,λi q=>(by rw[hs]at q;cases q),λb o q _ _=>K.old b o q,λi q=>by rw[X]at q;cases q⟩;obtain⟨o,z⟩:=F a O;have J:a9.heap.get? a=Y8:=(I q).2 a V;rw[z]at J;cases J
 .exact .inr ⟨e,N,cls,Y7,e1,e2,T,Y,λb o q=>K.old b o q⟩
abbrev Pb(q:Program)(loose:Yb Yg)(XP:(Yg->Yd Z0)->Heap->Prop)(YP:YB->Heap->Prop)(r:RowW)(d:DefRec)(kwd:Yb<|Str×YJ):Prop:=∀(w:YB)(aQ a9:ZQ)(mg mb:Yg->Yd Z0),Ground q loose r.records XP w aQ mg mb a9.heap->YP w a9.heap->∀(a:YF)(o:Yr)(pm cd doc dV kV:Z0),a9.heap.get? a=Y6 o->o.data=.func {docDef d.name d.params d.body d.scope pm cd doc with defaults:=dV,kwdefaults:=kV}->a9.heap.CodeRec cd d.name->Dflts mg a9.heap d.params kwd dV kV->mg d.name=Y6 (.ref a)->a9.gens=#[]->∀(args:Yb WData)(vals:Yb Z0)(as:Yb YF),r.claim.pre args=Ye->WData.layableAll args=Ye->ReadsAllW r.records (classAt aQ.heap) a9.heap vals args as->WellAll w.params a9.heap vals args->(∀a∈as,(a==sysModules)=Yc)->Yi (Zs r.prog w) callerA (Zm (.ref a) vals) (λv s'=>Ar r.claim (classAt aQ.heap) (u_ aQ.heap) args a9 (.ok<|.ret v) s')
    (λe s'=>Ar r.claim (classAt aQ.heap) (u_ aQ.heap) args a9 (.error e) s') a9
theorem Pc{r:OpenRow}{q:Program}{loose:Yb Yg}{Xt:ZQ->Yj}{XP:(Yg->Yd Z0)->Heap->Prop}{α:Type}{Yf:ZQ->α}{Ya:YB->α}{YP:YB->Heap->Prop}{d:DefRec}{O:Yb<|Str×YJ}{N:Y9}(left:LeftO r.prog q loose Xt Yf Ya N Yc)(hY:∀w s,Yf s=Ya w->YP w s.heap)(a4:∀w h S,YP w h->(∀b o,h.get? b=Y6 o->S.get? b=Y6 o)->YP w S)(hX:∀s,Xt s->XP (s.heap.nsMap G_) s.heap)(a6:∀mg h S,XP mg h->(∀b o,h.get? b=Y6 o->S.get? b=Y6 o)->XP mg S)(F:defOf q r.name=Y6 (d,O))(hp:r.prog.theDef r.name=Y6 (d.params,d.body,d.scope))(hk:kwWritten? d.params.kwonlyargs d.params.kw_defaults=Y6 O)(ad:∀s,Xt s->RecFacts r.records s.heap)(Z:!r.writes||r.records.isEmpty)(k1:r.wellSaid)(ok:chainsOk q&&opensWell r.prog&&(frees r.toRowW&&r.within.isEmpty))(hb:r.prog.bare)(hw:r.toRowW.promised)(a0:Pb q loose XP YP r.toRowW d O):r.Holds:=by
 obtain⟨a8,a7⟩:=YE.mp ok;obtain⟨Y,aa⟩:=YE.mp a8;obtain⟨ac,ab⟩:=YE.mp a7;obtain⟨f1,f2,f3,f4,f5⟩:=frees_parts ac;refine⟨k1,hw,⟨hb,aa,by show r.toRowW.makers.map _=[];rw[f5];rfl⟩,hw.witness,λw=>⟨(left.behind hX Y w).1,λs' a5=>?_⟩⟩;obtain⟨aQ,g1,g2,s,g3,g4,g5,g6,G0,y⟩:=(left.behind (XP:=λmg h=>XP mg h/\RecFacts r.records h) (λs hs=>⟨hX s hs,ad s hs⟩) Y w).2 s' a5;have G:Ground q loose [] XP w s (s.heap.nsMap G_) (s.heap.nsMap builtinsNs) s.heap:=⟨G0.T,G0.B,G0.D,G0.TE,G0.TD,G0.W,G0.X.1,G0.cls,G0.has,G0.apart,G0.once,G0.K⟩;have RF:=G0.X.2;have GRq:Ground q loose r.toRowW.records XP w s _ _ s.heap:=RF.ground G;obtain hg:leftWithCleanup s.gens=Yc:=by simpa using g5
 refine⟨aQ,g1,g2,s,g3,λn hn=>?_,RF.1,RF.2.1,?_⟩
 .obtain rfl:n=r.name:=by split at hn<;>simp_all
  exact pinned_of_view g6 G F hp hk
 refine ClaimW.callFrom_of_specN (c:=r.toRowW.claim) g4 hg λargs U L ord V=>?_;obtain⟨⟨vs,a9⟩,u⟩:=YU.mp<|layAllW_isSome (P:=w.params) (ord:=ord) GRq.has args r.toRowW.args s (pre_splitW U).1;obtain kp:=layAllW_keeps _ _ _ u;obtain al:=layAllW_rest _ _ _ u;obtain⟨as,J,af,I⟩:=reads_layAllW V _ _ _ u L a9.heap<|λ_ _ e=>e;have G1:=GRq.keeps a6 kp;obtain⟨a,o,pm,cd,doc,dV,kV,h1,h2,h3,h4,h5⟩:=G1.fn F;obtain run:=a0 w s {a9 with gens:=#[]} _ _ G1 (a4 _ _ _ (hY w s y) kp) a o pm cd doc dV kV h2 h3 h4 h5 (defOf_name F▸h1) Y7 args vs as U L J (well_layAllW V args s _ u _ λ_ _ e=>e)
  (λa ha=>Yl.mpr λe=>by have:=(af.2.2 a ha).1;subst e;exact absurd GRq.low<|Nat.not_lt.mpr this);obtain hi:=ident_freeW f2 f3 f4;obtain hwi:r.toRowW.claim.within=[]:=List.isEmpty_iff.mp ab;exact⟨vs,a9,u,wpAny_bind<|wpAny_nsGet G1.T.g<|by rw[h1];exact wpAny_bind<|wpAny_mono run (λv s' g=>wpAny_pure ⟨_,Y7,have z:=Ip (c:=r.toRowW.claim) f1 hwi hi J I al.2.2.1 g;⟨z.1,z.2.1,z.2.2,λq=>⟨namesKept_of g3 g6 _ kp g.1.2.1.old,noTable Z q⟩⟩⟩) λe s' g=>have z:=Ip (c:=r.toRowW.claim) f1 hwi hi J I al.2.2.1 g;⟨z.1,z.2.1,z.2.2,λq=>⟨namesKept_of g3 g6 _ kp g.1.2.1.old,noTable Z q⟩⟩⟩
section
variable{M:Zb}{A:Around}{s a9:ZQ}{c:ClaimW}{cl:Yg->Yd YF}{mean:ExcName->Yd Z0}{args:Yb WData}
theorem Pd{f:Z0}{pos:Yb Z0}(h:Q_ M A (.call f ⟨pos,[]⟩) (Ar c cl mean args a9) s):Yi M A (Zm f pos []) (λv s'=>Ar c cl mean args a9 (.ok<|.ret v) s') (λe s'=>Ar c cl mean args a9 (.error e) s') s:=wpAny_call<|codeAny_mono h λu s' g=>by rcases g.1.1 with⟨v,_,_,rfl,_⟩|⟨e,_,_,rfl,_⟩<;>exact g
theorem Pe{cd:Code}{k P:YF}(L:TabsAt [(k,P)] a9.heap)(T:∀a x,c.raises a x=Yc)(h:Q_ M A cd (λr s'=>GoodW c cl mean args {a9 with heap:=ghostOf a9.heap [(k,P)]} r s'/\GrownAll [(k,P)] s'.heap) s):Q_ M A cd (Ar c cl mean args a9) s:=by
 refine r_ h λr s' z=>?_;obtain⟨⟨h1,h2,h3,h4⟩,h5,_⟩:=z;refine⟨⟨?_,⟨λb o e=>?_,λb o e=>?_⟩,h3,.of_eq h4⟩,h4⟩
 .obtain⟨ps,F⟩:=h5;rcases h1 with⟨v,d,as,r1,r2,r3,I,O⟩|⟨e,U,x,_,_,_,I,_⟩;.refine .inl ⟨v,d,as,r1,r2,r3,I,λq=>⟨(O q).1,λa N=>?_⟩⟩;cases S:a9.heap.get? a with|none=>rfl|some o=>
    by_cases u:a=P;.subst u;exact absurd N<|readsW_apart F Y7 r3
    .obtain J:(ghostOf a9.heap [(k,P)]).get? a=Y8:=(O q).2 a N;replace J:=ghost_ne (tabs:=[(k,P)]) S (λz=>u<|List.mem_singleton.mp z)▸J;cases J
  .rw[T]at I;cases I
 .by_cases u:b=P;.subst u;obtain⟨ps,F⟩:=h5;have e2:=(L _<|.head _).2;rw[e]at e2;cases e2;exact .inr<|.inl ⟨((L _<|.head _).1.tab (L _<|.head _).2).isCodeTable,Y7,#[],ps,Y7,by rw[Array.empty_append];exact F⟩
  .exact .inl<|h2 b o<|ghost_ne (tabs:=[(k,P)]) e λz=>u<|List.mem_singleton.mp z
 .by_cases u:b=P;.subst u;obtain⟨ps,F⟩:=h5;exact⟨_,F⟩
  .exact⟨o,h2 b o<|ghost_ne (tabs:=[(k,P)]) e λz=>u<|List.mem_singleton.mp z⟩
end
end MineTop
namespace MineTop
open PySem PySem.W PyProof.Rows
theorem kE:∀P:Yq,zj=(K P).map (·.1):=λ_=>by kernel_rfl
def hd:=λwalk=>Oq<|Pc (r:=YN.row) (q:=qv) (loose:=loose) (Xt:=Xt) (XP:=XL qv lv) (Yf:=Hook.obs<|kHook K zj kE) (Ya:=Hook.val<|kHook K zj kE) (YP:=Hook.says<|kHook K zj kE) (N:=40000) left (Hook.of<|kHook K zj kE) (Hook.keeps<|kHook K zj kE) (λs e=>xl_of s (YE.mp e).1) XL.keeps (by rfl) (by rfl) (by rfl) (λs e=>recFacts_of (YE.mp e).2) (by rfl) (by decide+kernel) (by decide+kernel) ⟨Y7,Y7,Y7,Y7,Y7,by decide+kernel⟩ (by w_witness2) walk
end MineTop
open Option.some renaming inj→c0,injEq→sU
open _root_ renaming if_neg→d8,if_pos→d9,absurd→g9,congrArg→i6,decide_eq_true→i7,of_decide_eq_true→k9,decide_eq_false→n9,decide_eq_true_eq→t4,beq_iff_eq→v1,of_decide_eq_false→eE,beq_self_eq_true→iI,beq_eq_false_iff_ne→iR,decide_eq_false_iff_not→mM,bne_iff_ne→nK,ne_true_of_eq_false→nY,beq_false_of_ne→rL
open PySem renaming wpAny_bind→g7,wpAny_pure→j6,Shared→j8,sizeLine→k8,wpAny_mono→m8,Value→n4,wpAny_holding→v7,Around→cG,Params→dE,NameKind→dJ,wpAny_of_eq→dX,mainGlobals→dY,wpAny_assign_Name→eI,typeIs_str→eS,builtinsNs→fL,wpAny_standAt→fP,wpAny_newObj_type→gI,DictEntry→gM,wpAny_storeName_local→gQ,Builtin→gU,wpAny_load→iD,entryFor_of_tree→iG,wpAny_call_entry→iH,Program→lG,wpAny_Assign_Name→lI,getMethod_builtin→lJ,wpAny_loadName_local→lN,wpAny_call→mI,wpAny_isInstance→nJ,codeAny_call_builtin→nS,sizeLine_eq→nU,wpAny_mkInt→oY,Heap→pJ,wpAny_items_cons→pK,wpAny_execs_cons→pL,call_meets→rB,codeAny_of_tree→rE,codeAny_builtin→rF,wpAny_ite_false→rI,recursionLimit→sB,wpAny_rule→sO,wpAny_Name→sQ
open Nat renaming le_trans→g8,add_le_add_left→i8,lt_of_lt_of_le→i9,le_refl→j7,add_assoc→m3,add_right_comm→m5,le_add_right→m7,succ_le_succ→m9,le_of_lt→n6,le_succ_of_le→n7,lt_of_le_of_lt→r5,add_le_add_right→r6,le_of_succ_le→t9,le_of_succ_le_succ→u7,lt_succ_self→u8,add_comm→v3,zero_le→v8,ne_of_lt→v9,pos_of_ne_zero→w5,lt_succ_of_le→w6,min_eq_left→w7,mul_le_mul_left→aY,le_add_left→bA,lt_of_le_of_ne→bI,add_sub_cancel_left→dD,le_of_lt_succ→dG,lt_add_of_pos_right→dH,lt_succ_of_lt→dI,add_sub_cancel'→dO,add_sub_of_le→dR,add_le_add→dS,not_succ_le_zero→dZ,succ_pos→eG,le_of_eq→eJ,mul_le_mul_right→eK,le_of_add_right_le→eU,not_lt_zero→eV,ne_of_gt→eZ,zero_add→fA,lt_irrefl→fD,min_eq_right→fE,lt_of_succ_lt_succ→fG,le_succ→fM,le_antisymm→fQ,min_le_right→fR,le_sub_of_add_le→fY,lt_of_succ_lt→gJ,le_of_not_le→gS,sub_self→gV,le_sub_one_of_lt→gW,lt_trans→iE,sub_eq_zero_of_le→iJ,sub_lt→iO,succ_pred_eq_of_pos→iT,sub_le→iY,sub_add_cancel→iZ,sub_pos_of_lt→lD,le_of_not_lt→lX,sub_lt_left_of_lt_add→lY,lt_of_lt_of_eq→mG,add_sub_cancel→mJ,min_le_left→mL,succ_le_of_lt→mP,add_sub_assoc→mY,add_sub_add_right→nB,le_sub_of_add_le'→nE,le_of_add_left_le→nF,add_lt_of_lt_sub→nO,add_left_cancel→nZ,add_lt_add_left→oA,lt_of_add_lt_add_left→oU,lt_trichotomy→pB,add_pos_right→pC,lt_or_ge→pW,strongRecOn→rM,le_of_sub_eq_zero→rN,lt_of_sub_eq_succ→rO,sub_add_eq→rV,add_zero→rX,succ→sA,succ_mul→sS,succ_sub→sV,sub_zero→sW
open Bool renaming and_eq_true→j0,not_eq_true'→fU,or_eq_true→fX,or_eq_false_iff→iM,not_eq_true→lV,false_eq_true→pE,and_true→pG,and_false→rZ,and_assoc→sF,not_not→sI,true_and→sL
open List renaming length_append→j9,length_cons→m4,lookup→n3,length_map→n5,getElem?_eq_getElem→r7,takeWhile_append_dropWhile→r8,length_drop→r9,suffix_cons→u3,getD_eq_getElem?_getD→v4,append_assoc→v5,takeWhile_cons→v6,getLast?_eq_some_getLast→w8,dropWhile_cons→w9,getElem?_append_right→cA,length_take→dF,drop_eq_getElem_cons→dK,drop_suffix→dQ,size_toArray→dT,suffix_refl→dU,take_of_length_le→dW,dropWhile_suffix→eF,range'→eM,getLast?_eq_getElem?→eP,map_append→eQ,take_append_drop→eW,append_nil→eY,mem_of_mem_drop→fC,all_cons→fK,eq_nil_of_length_eq_zero→fN,take_succ_cons→fO,dropLast_concat_getLast→fV,getElem?_append_left→fZ,length_singleton→gA,prefix_refl→gF,map_cons→gH,exists_cons_of_ne_nil→gK,getLast?_concat→gN,mem_append_right→gR,getElem_mem→gT,mem_of_mem_take→gX,mem_of_getLast?→gY,drop_left→gZ,drop_sublist→hH,count_append→hN,getLast?_map→iA,count_cons_self→iB,length_replicate→iF,eq_nil_or_concat→iK,concat_eq_append→iL,count_le_length→iN,getElem?_drop→iP,map_congr_left→iS,pairwise_lt_range'→iU,filter_cons_of_pos→iV,getElem?_map→iW,map_map→iX,drop_eq_nil_of_le→lE,all_eq_true→lK,length_dropLast→lO,getLast?_append→lP,dropLast_subset→lQ,drop_drop→lT,getElem?_eq_none→lU,lookup_cons→lW,eq_of_mem_replicate→mE,map_drop→mF,cons_ne_nil→mK,take_sublist→mQ,takeWhile_sublist→mT,mapM_cons→mV,drop_of_length_le→mW,map_dropLast→mX,filterMap_eq_map'→mZ,dropLast_eq_take→nG,count_cons_of_ne→nH,filter_append→nL,zip_cons_cons→nM,take_nil→nN,cons_append→nP,map_id→nW,mem_of_getElem?→nX,getElem_of_mem→oB,filter_cons_of_neg→oK,forIn_cons→oM,nil_append→oO,prefix_append→oS,take_left→oT,range'_succ→oX,reverse_cons→oZ,flatten_cons→pD,filterMap_cons_some→pF,contains_eq_any_beq→pI,getLast_mem→pN,pairwise_singleton→pO,not_mem_nil→pP,filter_cons→pQ,of_mem_zip→pT,range→pZ,foldl_cons→rH,mem_append→rK,singleton_append→rS,contains_iff_mem→rU,mem_cons→rW,take_zero→rY,nodup_nil→sD,mem_append_left→sE,any_map→sG,drop_zero→sH,map_take→sN
open PySem.Builtin.Range renaming rangeSize→m6,rangeFitsLong→oG
open Array renaming length_toList→n8,getElem?_eq_getElem→dM,getElem?_toList→dP,eq_empty_of_size_eq_zero→fJ,getD_eq_getD_getElem?→gG,toList_append→lB,size_append→nQ,toList_push→nR,getElem?_eq_none_iff→oQ,getElem_extract→rT
open List.cons renaming inj→r4,injEq→tA
open PySem.Unicode renaming isAlnum→u2,isSpace→aJ
open Option renaming bind_some→u6,map_some→mC,map→pV
open PySem.Txt renaming contains→u9,replace→eL,find3→gE,lstripChars→gO,split→oJ,count→sY
open Int renaming natCast_nonneg→cD,toNat_natCast→eH,le_trans→lS,lt_of_le_of_lt→mH,le_refl→nV,add_zero→oH,le_sub_left_of_add_le→oW,max_eq_right→pM,add_comm→pR,lt_irrefl→sM
open PySem.Sre.M renaming runFor→dB,afterRun→sP
open Classical renaming byContradiction→eO
open PySem.Heap renaming get?_push_of_some→eT,get?_push_size→eX,get?_none_of_le→gD,size_push→lL,SameBut→mU,lt_size→rA,get?_update_self→rP
open PySem.PyData renaming eqv→fB,strOk→fH,depthAll→rG,keyHash→sC
open PySem.Sre renaming Frame→fF,Loop→mS
open PySem.Builtin.Str renaming occurrences→gC,strSliceIndices→lH,lastOccurrence→lM,tooLong→mB,strKind→sJ
open LawfulBEq renaming eq_of_beq→gL
open Ne renaming symm→gP
open ForInStep renaming yield→iC
open PySem.Manifest renaming signature?→iQ
open PySem.F renaming slot_str_split→lA,args_str_split_2→mD,entry_str_split→mN,slot_str_expandtabs→oE,entry_list_append→oV,slot_list_append→pH,slot_str_rfind→pU,slot_str_find→rQ,slot_str_join→rR
open And renaming imp_right→lC
open Eq renaming symm→lF
open Nat.le renaming intro→lR
open Decidable renaming byContradiction→lZ
open PySem.Heap.SameBut renaming update→mA
open PySem.MeetsSeq2 renaming wpAny_forIn_array→mO
open PySem.GM renaming noRef→nT
open PySem.Code renaming quiet_builtin→oP
open PySem.Calls renaming Constant_str→oR
open PySem.Value renaming isInt→pA
open Nat.succ renaming inj→pS
open PySem.Str renaming ofString→pX
open Exists renaming imp→pY
open List.Sublist renaming length_le→rD
open PySem.StrLaws renaming partsBetween_eq→rJ
open PySem.Expr renaming Constant→sK
open Nat.ToInt renaming of_diseq→sR,of_le→sZ
open PyProof.Rows renaming tail_any→sT
open PySem.DictEntry renaming refKey→sX
namespace Mine.Lake
theorem jh{α β:Type _}{o:Yd α}{f:α->Yd β}{b:β}{G:Prop}(h:o.bind f=Y6 b)(k:∀a,o=Y6 a->f a=Y6 b->G):G:=(D_.mp h).elim λa h=>k a h.1 h.2
theorem jk{α β:Type _}{o:Yd α}{f:α->β}{b:β}{G:Prop}(h:o.map f=Y6 b)(k:∀a,o=Y6 a->f a=b->G):G:=(K_.mp h).elim λa h=>k a h.1 h.2
theorem ji{α β:Type _}{o:Yd α}{f:α->Yd β}{b:β}(h:o.bind f=Y6 b):∃a,o=Y6 a/\f a=Y6 b:=D_.mp h
theorem jl{α β:Type _}{o:Yd α}{f:α->β}{b:β}(h:o.map f=Y6 b):∃a,o=Y6 a/\f a=b:=K_.mp h
theorem jg{p:Prop}[Zf p](h:Yk p=Ye:=by kernel_rfl):p:=of_decide_eq_true h
theorem iu{p:Prop}(h:p:=by decide):p:=h
theorem dk{a b:Y9}:a<=b+(a-b):=ZM.mp<|j7 _
theorem dl{a b:Y9}(h:a<b):b-a=b-(a+1)+1:=(iT<|lD h).symm
theorem gb{a b c:Y9}(h:a<=b/\b<a+(c-a)):b<c:=(Nat.le_total a c).elim (λq=>dR q▸h.2) λq=>g9 h.2<|Nat.not_lt.mpr<|g8 (eJ<|i6 (a+·)<|iJ q) h.1
theorem ef{a b:Y9}:(max 0<|min (-(b:Yh)+a) a).toNat=a-b:=by rw[pR,<-Int.sub_eq_add_neg,Int.min_eq_left<|Int.sub_le_self _<|cD b,Int.max_comm,<-Int.toNat_eq_max,eH,Int.toNat_sub]
theorem eg{a b:Y9}(u:a<=b):b+1-(a+1)<b+1-a:=by rw[nB,Nat.sub_add_comm u];exact u8 _
theorem eh{a b c d e:Y9}(u:a+20*b+200<c)(F:d<=8):a+1+Ze e d<c:=r5 (g8 (i8 (g8 (fR e d) F)<|a+1)<|by rw[m3,m3];exact i8 (g8 iu<|bA 200<|20*b) a) u
theorem gc{a c:Y9}{B:Yh}(u:(a:Yh)=max 0 (Ze B (c:Yh))):a<=c:=Z9.mp<|by rw[u];exact Int.max_le.mpr ⟨cD c,Int.min_le_right _ _⟩
theorem gf{a b c:Y9}(u:a=b+c+1):a-1+1=a:=by subst u;rfl
theorem ej{a b:Y9}:a<a+(b+1):=w6<|m7 a b
theorem gg{a b c:Y9}(u:a+2=b+c+1)(F:0<c):a=b+(c-1):=by cases c with|zero=>cases F|succ c=>exact pS<|pS u
theorem ck{a:Y9}(h:0<a):(a:Yh)-1=((a-1:Y9):Yh):=(Int.ofNat_sub h).symm
theorem gh{a b:Y9}(u:a=b+1):-1+(a:Yh)=(b:Yh):=by subst u;exact(pR _ _).trans<|ck<|eG b
theorem ek{a b c:Y9}(u:a+10*(b+1)+100<c):a<c:=r5 (g8 (m7 _ _)<|m7 _ _) u
theorem el{a b c:Y9}(u:a+20*(b+1)+200<c):a+3+20*b+200<c:=r5 (r6 (by rw[m3,v3 3];exact i8 (i8 iu _) a) 200) u
theorem er{a b c:Y9}(u:a+10*(b+1)+100<c):a+1+10*b+100<c:=r5 (r6 (by rw[m3,v3 1];exact i8 (i8 iu _) a) 100) u
theorem gi{a b c d:Y9}(u:a+1<=b)(F:c+20*b+200<d):c+1+20*a+200<d:=r5 (r6 (by rw[m3,v3 1];exact i8 (g8 (i8 iu _)<|aY 20 u) c) 200) F
theorem gj{a b c d:Y9}(u:a+1<=b)(F:c+10*b+100<d):c+1+10*a+100<d:=r5 (r6 (by rw[m3,v3 1];exact i8 (g8 (i8 iu _)<|aY 10 u) c) 100) F
theorem gk{a:Y9}(u:0<a):((a-1:Y9):Yh)+1=(a:Yh):=by rw[<-ck u];exact Int.sub_add_cancel _ _
theorem gm{a:Y9}:(max 0<|min (-1+((a+1:Y9):Yh)) ((a+1:Y9):Yh)).toNat=a:=ef (a:=a+1) (b:=1)
theorem bu{a b c:Y9}(h:a<b)(k:b<=c:=by decide):a<=c:=g8 (n6 h) k
theorem bx{a b c:Y9}(h:a<=b)(k:b<=c:=by decide):a<=c:=g8 h k
theorem di{a b c:Y9}(h:a<=b)(k:b+1<=c:=by decide):a+1<=c:=g8 (m9 h) k
theorem dj{a b c d:Y9}(h:a<b)(k:b<=c:=by decide):a-d<c:=r5 (iY _ _)<|i9 h k
theorem cz{a b k:Y9}(h:a+5*b+50<6000)(i:k<=50:=by decide):a+k<6000:=r5 (dS (m7 a _) i) h
theorem dr{a b c d e f:Y9}(F:a+(b+1)=c)(I:d<=b+1)(u:e=b+1-d):f+a+d+e<=f+c:=by rw[u,m3,dO I,m3,F];exact j7 _
theorem dm{a b c:Y9}(u:0<a)(F:b<=2*c+1):b+1+1<=2*(c+a)+1:=m9<|g8 (m9 F)<|aY 2<|i8 u c
theorem dt{a b c d e:Y9}(F:a<b-1)(I:b-1=c+(d-1))(u:a=c+e):e+1<d:=nO<|oU<|show c+e<c+(d-1)by rw[<-u,<-I];exact F
theorem et{a b c d:Y9}(u:a+b=c)(F:d<=b):d<=c-a:=nE<|by rw[<-u];exact i8 F a
theorem cn{a b c:Y9}(h:a+b=c):b<=c:=nF<|eJ h
theorem du{a b c:Y9}(h:Ze a b=c):c<=b:=g8 (eJ h.symm)<|fR _ _
theorem eu{a b c:Y9}(u:a-b=c+1):a-(b+1)=c:=by rw[rV,u];rfl
theorem ew{a b:Y9}(F:a<=2000)(u:b=16777216):a+1<=b:=by subst u;exact di F
theorem gn{a b c:Y9}(u:a+1+b=c)(F:Ze 3 (a+1)=3):b+1+2<=c:=by rw[<-u,v3<|a+1];exact i8 (du F) b
theorem gp{a b:Y9}(F:a<=1001)(u:b=16777216):a+1<=b:=by subst u;exact di F
theorem gq{a b c d e:Y9}(F:a<b+1)(I:a-(c+1)=d)(u:a=c+(e+1)):d<b:=by subst u I;exact i9 (iO (eG _)<|eG c)<|dG F
theorem gu{a b c d e f:Y9}(F:a-(b+1)=c)(I:a=b+(d+1))(u:e<f+b+1+c):e<f+a:=mG u<|by rw[<-F,m3 f,m3 f,dO<|by rw[I];exact i8 (bA 1 d) b]
theorem gv{a b c d:Y9}(F:a<b)(I:c+d=a)(u:b-c=0):False:=Nat.lt_irrefl _<|i9 F<|g8 (rN u)<|lR I
theorem ey{a b c d:Y9}(u:a<b)(F:c+d=a):c<=b:=g8 (lR F)<|n6 u
theorem gw{a b c d:Y9}(F:a+b=c)(I:0<b)(u:d=c):a-1<d:=r5 (iY _ _)<|by rw[u,<-F];exact dH I
theorem gx{a b c:Y9}(u:a+b=c):a-1<=c:=g8 (iY _ _)<|lR u
theorem gy{a b c d:Y9}(u:a-b=c+(d+1)):Ze (c+1) (a-b)=c+1:=by rw[u];exact w7<|i8 (bA 1 d) c
theorem gz{a b c d:Y9}(u:a-b=c+(d+1)):b+c+1<=a:=by have h:=dO<|n6<|rO u;rw[u]at h;rw[<-h];exact i8 (i8 (bA 1 d) c) b
theorem ez{a b c d:Y9}(u:a+b<=c)(F:d+a=c):b<=d:=Nat.le_of_add_le_add_left (by rw[v3 a d,F];exact u:a+b<=a+d)
theorem ig{a b c d e:Y9}(J:a<300)(L:b=a)(F:c=d)(I:d<=b)(u:c=e):e<300:=by subst L F u;exact r5 I J
theorem fb{a b c:Y9}(F:a<=900)(I:b<=a+1)(u:c=16777216):b<=c:=by subst u;exact g8 I<|di F
theorem ij{a b c d:Y9}(u:a<=b/\b<=c)(F:d<=c+1-(b+1)):d+1<=c+1-a:=fY<|by rw[m5];exact m9<|g8 (i8 u.1 d)<|Nat.add_le_of_le_sub u.2<|nB c 1 b▸F
theorem ik{a b c:Y9}(u:a+(b+2)<=c+b):a+2<=c:=Nat.le_of_add_le_add_right (b:=b)<|by rw[m3,v3 2];exact u
theorem ff{a b:Y9}:a<a+1+b:=mP<|m7 a.succ b
theorem fg{a b c:Y9}(u:a<b):a<c+(b+1-c):=i9 (dI u)<|Nat.sub_le_iff_le_add'.mp<|j7 _
theorem im{a b c d e f g h:Y9}(J:a<300)(L:b+c+d=e)(F:f+g=d)(I:h=a)(u:e<=h):f<1000:=r5 (g8 (lR F)<|g8 (cn L)<|I▸u)<|bx J
theorem ip{a b c d e:Y9}(I:a<300)(J:b=a)(u:c<=b)(F:d+e<=c):d+e<=1000:=g8 F<|g8 u<|by rw[J];exact bu I
theorem iq{a b c:Y9}(I:a<300)(J:b=a)(u:c<=b+1)(F:c>1000):False:=by subst J;exact g9 (i9 F<|g8 u I) iu
theorem fh{a b c d:Y9}(h:a+5*b+50<6000)(i:c+d<=50:=by decide):a+c+(5*b+d)<6000:=r5 (g8 (eJ<|Nat.add_add_add_comm a c (5*b) d)<|i8 i _) h
theorem fi{a b c k:Y9}(h:a+5*b+50<6000)(i:c<b)(j:k<=5:=by decide):a+k+5*c+50<6000:=r5 (r6 (by rw[m3];exact i8 (g8 (r6 j _)<|g8 (eJ<|v3 5<|5*c)<|aY 5 i) a) 50) h
theorem fj{b c d k m n:Y9}(i:c<b)(j:k+m<=30+n:=by decide):d+k+30*c+m<=d+30*b+n:=by rw[m3 d,v3 k,m3 d,m3<|30*c,m3 d];exact i8 (g8 (i8 j _)<|by rw[<-m3];exact r6 (aY 30 i) n) d
theorem cp{a k m:Y9}(i:k<=m:=by decide):a+k<=a+m:=i8 i a
theorem dc{a b c k:Y9}(h:a<b)(i:b+k<=c:=by decide):a+k<c:=i9 (Nat.add_lt_add_right h k) i
theorem da{a:Y9}{c:Yh}(i:c<=0:=by decide):c<=(a:Yh):=lS i<|cD a
theorem db{a n:Y9}{c:Yh}(h:a<=n)(i:(n:Yh)<c:=by decide):(a:Yh)<c:=mH (Z9.mpr h) i
theorem dn{a b:Y9}(h:(a:Yh)==(b:Yh)):a=b:=ZE.mp<|gL h
theorem fk{a b:Y9}(h:a<=b)(e:Yk (a<b)=Yc):a=b:=fQ h<|Nat.not_lt.mp<|eE e
theorem fm{a b c d e:Y9}(I:a<300)(J:b<10)(u:c<=d)(F:e+d=a):b+1+1+5*c+50<6000:=r5 (r6 (dS (r6 (n6 J) 2)<|aY 5<|g8 u<|g8 (cn F)<|n6 I) 50) (by decide:10+2+5*300+50<6000)
theorem fo{a b c d e:Y9}(I:a<300)(J:b<10)(u:c<=d)(F:e+d=a):b+1+1+30*c+40<=11998:=g8 (r6 (dS (r6 (n6 J) 2)<|aY 30<|g8 u<|g8 (cn F)<|n6 I) 40) (by decide:10+2+30*300+40<=11998)
theorem fp{a:Y9}(u:a<100):a+1<10000:=di (a:=a+1) u
theorem fq{a b c:Y9}:a<=b+(c+a+1):=g8 (bA a c)<|g8 (Nat.le_succ _)<|bA _ b
theorem bc{c:Prop}[Zf c]{α:Type _}{a b x:α}(h:¬c)(e:ite c a b=x):b=x:=(d8 h).symm.trans e
theorem bi{c:Prop}[Zf c]{α:Type _}{a b x:α}(h:c)(e:ite c a b=x):a=x:=(d9 h).symm.trans e
theorem bk{c:Prop}[Zf c]{α:Type _}{a b x:α}(h:¬c)(e:b=x):ite c a b=x:=(d8 h).trans e
theorem bj{c:Prop}[Zf c]{α:Type _}{a b x:α}(h:c)(e:a=x):ite c a b=x:=(d9 h).trans e
theorem cg{A B:Prop}{G:Prop}(h:A/\B)(f:A->B->G):G:=f h.1 h.2
theorem bq{A B C:Prop}{G:Prop}(h:A/\B/\C)(f:A->B->C->G):G:=f h.1 h.2.1 h.2.2
theorem bz{A B C D:Prop}{G:Prop}(h:A/\B/\C/\D)(f:A->B->C->D->G):G:=f h.1 h.2.1 h.2.2.1 h.2.2.2
theorem ft{A B C D E:Prop}{G:Prop}(h:A/\B/\C/\D/\E)(f:A->B->C->D->E->G):G:=f h.1 h.2.1 h.2.2.1 h.2.2.2.1 h.2.2.2.2
theorem bn{α:Sort _}{A:α->Prop}{G:Prop}(h:∃x,A x)(f:∀x,A x->G):G:=h.elim λx h=>f x h
theorem am{α:Sort _}{A B:α->Prop}{G:Prop}(h:∃x,A x/\B x)(f:∀x,A x->B x->G):G:=h.elim λx h=>f x h.1 h.2
theorem bo{α:Sort _}{A B C:α->Prop}{G:Prop}(h:∃x,A x/\B x/\C x)(f:∀x,A x->B x->C x->G):G:=h.elim λx h=>f x h.1 h.2.1 h.2.2
theorem cc{α:Sort _}{A B C D:α->Prop}{G:Prop}(h:∃x,A x/\B x/\C x/\D x)(f:∀x,A x->B x->C x->D x->G):G:=h.elim λx h=>f x h.1 h.2.1 h.2.2.1 h.2.2.2
theorem fu{α:Sort _}{A B C D E:α->Prop}{G:Prop}(h:∃x,A x/\B x/\C x/\D x/\E x)(f:∀x,A x->B x->C x->D x->E x->G):G:=h.elim λx h=>f x h.1 h.2.1 h.2.2.1 h.2.2.2.1 h.2.2.2.2
theorem fv{α:Sort _}{A B C D E F H I J:α->Prop}{G:Prop}(h:∃x,A x/\B x/\C x/\D x/\E x/\F x/\H x/\I x/\J x)(f:∀x,A x->B x->C x->D x->E x->F x->H x->I x->J x->G):G:=h.elim λx h=>f x h.1 h.2.1 h.2.2.1 h.2.2.2.1 h.2.2.2.2.1 h.2.2.2.2.2.1 h.2.2.2.2.2.2.1 h.2.2.2.2.2.2.2.1 h.2.2.2.2.2.2.2.2
theorem cq{α:Sort _}{β:Sort _}{A:α->β->Prop}{G:Prop}(h:∃x,∃y,A x y)(f:∀x y,A x y->G):G:=h.elim λx h=>h.elim λy h=>f x y h
theorem bw{α:Sort _}{β:Sort _}{A B:α->β->Prop}{G:Prop}(h:∃x,∃y,A x y/\B x y)(f:∀x y,A x y->B x y->G):G:=h.elim λx h=>h.elim λy h=>f x y h.1 h.2
theorem bp{α:Sort _}{β:Sort _}{A B C:α->β->Prop}{G:Prop}(h:∃x,∃y,A x y/\B x y/\C x y)(f:∀x y,A x y->B x y->C x y->G):G:=h.elim λx h=>h.elim λy h=>f x y h.1 h.2.1 h.2.2
theorem cm{α:Sort _}{β:Sort _}{A B C D:α->β->Prop}{G:Prop}(h:∃x,∃y,A x y/\B x y/\C x y/\D x y)(f:∀x y,A x y->B x y->C x y->D x y->G):G:=h.elim λx h=>h.elim λy h=>f x y h.1 h.2.1 h.2.2.1 h.2.2.2
theorem dg{α:Sort _}{β:Sort _}{A B C D E:α->β->Prop}{G:Prop}(h:∃x,∃y,A x y/\B x y/\C x y/\D x y/\E x y)(f:∀x y,A x y->B x y->C x y->D x y->E x y->G):G:=h.elim λx h=>h.elim λy h=>f x y h.1 h.2.1 h.2.2.1 h.2.2.2.1 h.2.2.2.2
theorem dp{α:Sort _}{β:Sort _}{γ:Sort _}{A:α->β->γ->Prop}{G:Prop}(h:∃x,∃y,∃z,A x y z)(f:∀x y z,A x y z->G):G:=h.elim λx h=>h.elim λy h=>h.elim λz h=>f x y z h
theorem dv{α:Sort _}{β:Sort _}{γ:Sort _}{A B:α->β->γ->Prop}{G:Prop}(h:∃x,∃y,∃z,A x y z/\B x y z)(f:∀x y z,A x y z->B x y z->G):G:=h.elim λx h=>h.elim λy h=>h.elim λz h=>f x y z h.1 h.2
theorem cy{α:Sort _}{β:Sort _}{γ:Sort _}{A B C:α->β->γ->Prop}{G:Prop}(h:∃x,∃y,∃z,A x y z/\B x y z/\C x y z)(f:∀x y z,A x y z->B x y z->C x y z->G):G:=h.elim λx h=>h.elim λy h=>h.elim λz h=>f x y z h.1 h.2.1 h.2.2
theorem cj{α:Sort _}{β:Sort _}{γ:Sort _}{A B C D:α->β->γ->Prop}{G:Prop}(h:∃x,∃y,∃z,A x y z/\B x y z/\C x y z/\D x y z)(f:∀x y z,A x y z->B x y z->C x y z->D x y z->G):G:=h.elim λx h=>h.elim λy h=>h.elim λz h=>f x y z h.1 h.2.1 h.2.2.1 h.2.2.2
theorem dx{α:Sort _}{β:Sort _}{γ:Sort _}{A B C D E:α->β->γ->Prop}{G:Prop}(h:∃x,∃y,∃z,A x y z/\B x y z/\C x y z/\D x y z/\E x y z)(f:∀x y z,A x y z->B x y z->C x y z->D x y z->E x y z->G):G:=h.elim λx h=>h.elim λy h=>h.elim λz h=>f x y z h.1 h.2.1 h.2.2.1 h.2.2.2.1 h.2.2.2.2
theorem fx{α:Sort _}{β:Sort _}{γ:Sort _}{A B C D E F H I:α->β->γ->Prop}{G:Prop}(h:∃x,∃y,∃z,A x y z/\B x y z/\C x y z/\D x y z/\E x y z/\F x y z/\H x y z/\I x y z)(f:∀x y z,A x y z->B x y z->C x y z->D x y z->E x y z->F x y z->H x y z->I x y z->G):G:=h.elim λx h=>h.elim λy h=>h.elim λz h=>f x y z h.1 h.2.1 h.2.2.1 h.2.2.2.1 h.2.2.2.2.1 h.2.2.2.2.2.1 h.2.2.2.2.2.2.1 h.2.2.2.2.2.2.2
theorem dy{α:Sort _}{β:Sort _}{γ:Sort _}{δ:Sort _}{A:α->β->γ->δ->Prop}{G:Prop}(h:∃x,∃y,∃z,∃w,A x y z w)(f:∀x y z w,A x y z w->G):G:=h.elim λx h=>h.elim λy h=>h.elim λz h=>h.elim λw h=>f x y z w h
theorem dz{α:Sort _}{β:Sort _}{γ:Sort _}{δ:Sort _}{A B:α->β->γ->δ->Prop}{G:Prop}(h:∃x,∃y,∃z,∃w,A x y z w/\B x y z w)(f:∀x y z w,A x y z w->B x y z w->G):G:=h.elim λx h=>h.elim λy h=>h.elim λz h=>h.elim λw h=>f x y z w h.1 h.2
theorem fy{α:Sort _}{β:Sort _}{γ:Sort _}{δ:Sort _}{A B C:α->β->γ->δ->Prop}{G:Prop}(h:∃x,∃y,∃z,∃w,A x y z w/\B x y z w/\C x y z w)(f:∀x y z w,A x y z w->B x y z w->C x y z w->G):G:=h.elim λx h=>h.elim λy h=>h.elim λz h=>h.elim λw h=>f x y z w h.1 h.2.1 h.2.2
theorem dq{α:Sort _}{β:Sort _}{γ:Sort _}{δ:Sort _}{A B C D:α->β->γ->δ->Prop}{G:Prop}(h:∃x,∃y,∃z,∃w,A x y z w/\B x y z w/\C x y z w/\D x y z w)(f:∀x y z w,A x y z w->B x y z w->C x y z w->D x y z w->G):G:=h.elim λx h=>h.elim λy h=>h.elim λz h=>h.elim λw h=>f x y z w h.1 h.2.1 h.2.2.1 h.2.2.2
theorem df{α:Sort _}{β:Sort _}{γ:Sort _}{δ:Sort _}{A B C D E:α->β->γ->δ->Prop}{G:Prop}(h:∃x,∃y,∃z,∃w,A x y z w/\B x y z w/\C x y z w/\D x y z w/\E x y z w)(f:∀x y z w,A x y z w->B x y z w->C x y z w->D x y z w->E x y z w->G):G:=h.elim λx h=>h.elim λy h=>h.elim λz h=>h.elim λw h=>f x y z w h.1 h.2.1 h.2.2.1 h.2.2.2.1 h.2.2.2.2
theorem dh{α:Sort _}{β:Sort _}{γ:Sort _}{δ:Sort _}{A B C D E F:α->β->γ->δ->Prop}{G:Prop}(h:∃x,∃y,∃z,∃w,A x y z w/\B x y z w/\C x y z w/\D x y z w/\E x y z w/\F x y z w)(f:∀x y z w,A x y z w->B x y z w->C x y z w->D x y z w->E x y z w->F x y z w->G):G:=h.elim λx h=>h.elim λy h=>h.elim λz h=>h.elim λw h=>f x y z w h.1 h.2.1 h.2.2.1 h.2.2.2.1 h.2.2.2.2.1 h.2.2.2.2.2
theorem ed{α:Sort _}{β:Sort _}{γ:Sort _}{δ:Sort _}{A B C D E F H:α->β->γ->δ->Prop}{G:Prop}(h:∃x,∃y,∃z,∃w,A x y z w/\B x y z w/\C x y z w/\D x y z w/\E x y z w/\F x y z w/\H x y z w)(f:∀x y z w,A x y z w->B x y z w->C x y z w->D x y z w->E x y z w->F x y z w->H x y z w->G):G:=h.elim λx h=>h.elim λy h=>h.elim λz h=>h.elim λw h=>f x y z w h.1 h.2.1 h.2.2.1 h.2.2.2.1 h.2.2.2.2.1 h.2.2.2.2.2.1 h.2.2.2.2.2.2
theorem ir{α:Sort _}{β:Sort _}{γ:Sort _}{δ:Sort _}{A B C D E F H I:α->β->γ->δ->Prop}{G:Prop}(h:∃x,∃y,∃z,∃w,A x y z w/\B x y z w/\C x y z w/\D x y z w/\E x y z w/\F x y z w/\H x y z w/\I x y z w)(f:∀x y z w,A x y z w->B x y z w->C x y z w->D x y z w->E x y z w->F x y z w->H x y z w->I x y z w->G):G:=h.elim λx h=>h.elim λy h=>h.elim λz h=>h.elim λw h=>f x y z w h.1 h.2.1 h.2.2.1 h.2.2.2.1 h.2.2.2.2.1 h.2.2.2.2.2.1 h.2.2.2.2.2.2.1 h.2.2.2.2.2.2.2
end Mine.Lake
open List (replicate)
open Array (size_push)
open Option (bind_eq_some_iff map_eq_some_iff)
namespace Mine.Lake
abbrev Pv:=n4->ZQ->Prop
abbrev Ln:=Yb Y9
abbrev Lv:=Yb n4
end Mine.Lake
namespace Mine.Lake.Re
open PySem PySem.Sre PySem.Builtin.Re PyProof.Rows
theorem zI{m:M}(h:m.outcome.isSome):∀n,dB n m=m|0=>Y7|n+1=>bj h Y7
theorem xM:∀(a b:Y9)(m:M),dB (a+b) m=dB b (dB a m):=by intro F;induction F with|zero=>intro b m;rw[fA];rfl|succ a u=>
  intro b m;rw[show a+1+b=a+b+1 by exact lF<|m5 _ _ 1];by_cases h:m.outcome.isSome=Ye;.rw[zI h,zI h,zI h]
  .show(if m.outcome.isSome then m else dB (a+b) m.step)=dB b (if m.outcome.isSome then m else dB a m.step);rw[d8 h,d8 h];exact u b m.step
section
variable{M':Zb}{A:cG}{E:Pv}{s:j8}
theorem Iq:∀(T:Y9)(m:M)(n:Y9){Q:M->j8->Prop},(dB n m).outcome.isSome->n<=4*T->1<=T->Q (dB n m) s->Yi M' A (reDrive T m) Q E s:=by intro N;induction N with|zero=>intro m n Q h J h1 F;lia|succ T L=>
  intro m n Q h J h1 F;show Yi M' A (if(dB 4 m).outcome.isSome then Zg (dB 4 m)else do rule "sre.turn";reDrive T<|dB 4 m) Q E s;by_cases h4:(dB 4 m).outcome.isSome=Ye
  .rw[d9 h4];rw[(by
    by_cases u:4<=n;.rw[show n=4+(n-4)by simp[u],xM,zI h4]
    .rw[show(4:Y9)=n+(4-n)by exact(dR<|n6<|Nat.not_le.mp u).symm,xM,zI h]:dB n m=dB 4 m)]at F;exact j6 F
  .rw[d8 h4];have I:4<n:=by refine ZN.mp λu=>h4 ?_;rw[show(4:Y9)=n+(4-n)by simp[u],xM,zI h];exact h
   rw[(by
    conv=>lhs;rw[show n=4+(n-4)by exact(dR<|n6 I).symm]
    rw[xM]:dB n m=dB (n-4) (dB 4 m))]at h F;exact g7<|sO<|L _ (n-4) h (by exact Nat.sub_le_of_le_add J) (by exact w5 λq=>by subst q;exact YR.mpr J I) F
theorem Ir{c:Y9->Yj}{I:Y9->YA}:∀(l:Ln){Q:PUnit->j8->Prop},Q ⟨⟩ s->Yi M' A (X_ l PUnit.unit λi r=>if c i then do rule<|I i;Zg (iC PUnit.unit)else Zg<|iC PUnit.unit) Q E s:=by intro F;induction F with|nil=>intro Q h;refine ?_;exact j6 h|cons i l u=>
  intro Q h;rw[oM];refine g7 ?_;by_cases hc:c i=Ye;.erw[d9 hc];exact g7<|sO<|j6<|u h
  .erw[d8 hc];exact j6<|u h
theorem yi{m:M}{n:Y9}(u:(dB n m).outcome=Y6 .matched\/(dB n m).outcome=Y6 .failed)(F:n<=4*2^64){Q:Yd M->j8->Prop}(hs:(dB n m).outcome=Y6 .matched->Q (Y6<|dB n m) s)(I:(dB n m).outcome=Y6 .failed->Q Y8 s):Yi M' A (V_ m) Q E s:=by
 refine g7<|Iq (2^64) m n (by rcases u with h|h<;>erw[h]<;>rfl) F iu<|g7<|Ir _ ?_;rcases u with h|h;.erw[h];exact j6<|hs h
 .erw[h];exact j6<|I h
end
def BK(code text:Yp Y9)(pos lim:Y9):M:=dB 20000<|forMatch code text 0 pos lim Yc Yc
def BL(m:M):Yd<|Option<|Nat×Y9:=match m.outcome with|some .matched=>if m.lastindex=-1 then Y6<|some (m.start,m.handed)else Y8|some .failed=>Y6 Y8|_=>Y8
def zG(code text:Yp Y9)(pos lim:Y9):Yd<|Option<|Nat×Y9:=BL<|BK code text pos lim
def ph(id:YA)(a:YF):Yr:={cls:=.type "builtin_function_or_method",data:=.fields #[.builtin id,.ref a]}
structure ox(h:pJ)(pt:YF)(code:Yp Y9):Prop where a:∃op fs ct,h.get? pt=Y6 op/\op.cls=.type "re.Pattern"/\op.data=.fields fs/\reRawNat (fs.getD 6 .none)=0/\reRawNat (fs.getD 2 .none)=0/\fs.getD 5 .none=.ref ct/\∃oc items e,h.get? ct=Y6 oc/\oc.data=.seq items e/\(items.map reRawOf).map (·.toNat)=code
theorem It:entryFor table "re.Pattern.match"=Y6 Builtin.«re.Pattern.match»:=iG<|by kernel_rfl
theorem Pf:I_ "re.Pattern.match"=Y6 .method:=by kernel_rfl
def zB:Yb Yh->Yh|i::_=>i|[]=>0
def zC:Yb Yh->Yh|_::l::_=>l|_=>2^63-1
inductive nn:Yb Yh->Lv->Prop|a:nn [] []|b(i:Yh)(t:b_):nn [i] [.int i t]|c(i l:Yh)(t u:b_):nn [i,l] [.int i t,.int l u]
section
variable{prog:lG}{w:YB}{A:cG}{E:Pv}{s:j8}
theorem Pg{pt:YF}{x:Yg}{t:b_}{is:Yb Yh}{rest:Lv}{code:Yp Y9}{M:Zb}(P:ox s.heap pt code)(h:nn is rest){Q:z_->j8->Prop}(u:Q () s):Yi M A (Zo "re.Pattern.match" ⟨.ref pt::.str x t::rest,[]⟩) Q E s:=by refine cj P.a λop fs ct h1 h2 h3 q=>?_;obtain hT:s.TypeIs (.ref pt) "re.Pattern":=⟨op,h1,h2⟩;unfold Zo;refine zJ5 (by kernel_rfl:iQ "re.Pattern.match"=Y6 ⟨.keywords,"Pattern.match","match",.self,[⟨"string",.posOrKw,Ye⟩,⟨"pos",.posOrKw,Yc⟩,⟨"endpos",.posOrKw,Yc⟩]⟩)<|zJ5 Pf ?_;dsimp only;refine ?_;refine g7<|nJ (b:=Yc) hT (by kernel_rfl) ?_;refine ?_;refine g7<|g7<|iD h1<|j6 ?_;erw[h3];refine ?_;exact g7<|wpAny_typeOf hT<|dX (by cases h<;>first|rfl|kernel_rfl) u
theorem Fi{M:Zb}{i:Yh}{t:b_}{Q:Yh->j8->Prop}(h1:-2^63<=i)(h2:i<2^63)(u:Q i s):Yi M A (reSsize<|.int i t) Q E s:=by refine g7<|dX (a:=i) Y7 ?_;erw[d8<|by simp;lia];exact j6 u
theorem Fj{M:Zb}{pt:YF}{x:Yg}{t:b_}{code:Yp Y9}{pos lim:Yh}(P:ox s.heap pt code){Q:ReTarget->j8->Prop}(O:Q {pattern:=.ref pt,string:=.str x t,code:=code,text:=x.cps,kind:=0,groups:=0,pos:=Ze pos.toNat x.cps.size,lim:=Ze lim.toNat x.cps.size} s):Yi M A (do
   let fs<-fieldsOf<|.ref pt let(text,kind)<-reTextOf<|.str x t let u:=reRawNat<|fs.getD 6 .none if u==0&&kind==1 then raiseError"TypeError""cannot use a string pattern on a bytes-like object"
   if u==1&&kind==0 then raiseError"TypeError""cannot use a bytes pattern on a string-like object"
   reNoCollectionInside (.str x t) kind let F(i:Yh):Y9:=Ze i.toNat text.size
   Zg {pattern:=.ref pt,string:=.str x t,code:=(<-reRawItems<|fs.getD 5 .none).map (·.toNat),text,kind,groups:=reRawNat<|fs.getD 2 .none,pos:=F pos,lim:=F lim}) Q E s:=by refine bC λJ=>?_;obtain⟨op,fs,ct,h1,h2,h3,h4,h5,S,oc,items,e,L,I,N⟩:=P.a;refine J<|g7<|wpAny_fieldsOf h1 h3<|g7<|dX (a:=(x.cps,0)) Y7 ?_;dsimp only;erw[h4];refine ?_;refine g7<|dX (a:=()) Y7 ?_;erw[S];refine g7<|g7<|wpAny_seqItems L I<|j6<|j6 ?_;dsimp only[Option.getD];refine zJ5 N<|zJ5 h5 ?_;exact O
theorem Iu{M:Zb}{pt:YF}{x:Yg}{t:b_}{is:Yb Yh}{rest:Lv}{code:Yp Y9}{id f:YA}(P:ox s.heap pt code)(h:nn is rest)(F:-2^63<=zB is)(I:zB is<2^63)(N:-2^63<=zC is)(L:zC is<2^63){Q:ReTarget->j8->Prop}(J:Q {pattern:=.ref pt,string:=.str x t,code:=code,text:=x.cps,kind:=0,groups:=0,pos:=Ze (zB is).toNat x.cps.size,lim:=Ze (zC is).toNat x.cps.size} s):Yi M A (reTarget id f ⟨.ref pt::.str x t::rest,[]⟩) Q E s:=by refine g7<|dX (by cases h<;>rfl:reNamed id f ["string","pos","endpos"] 1 (.str x t::rest) []=Zg [Y6<|.str x t,rest[0]?,rest[1]?]) ?_;cases h with|a=>exact g7<|j6<|g7<|j6<|Fj P J|b i u=>exact g7<|Fi F I<|g7<|j6<|Fj P J|c i l u v=>exact g7<|Fi F I<|g7<|Fi N L<|Fj P J
end
def xL(p e:Y9):Yr:={cls:=.type "tuple",data:=.seq #[rawInt p,rawInt e]}
def xI(x:Yg)(t:b_)(pt u:YF)(pos lim:Y9):Yr:={cls:=.type "re.Match",data:=.fields #[.str x t,.ref pt,rawInt pos,rawInt lim,rawInt<|-1,.ref u]}
section
variable{prog:lG}{w:YB}{A:cG}{E:Pv}{s:j8}{M:Zb}
theorem Iv{pt:YF}{x:Yg}{t:b_}{pos lim p e:Y9}{m:Sre.M}(h1:m.start=p)(h2:m.handed=e)(h3:m.lastindex=-1){Q:Pv}(u:Q (.ref<|s.heap.objs.size+1) {s with heap:=(s.heap.push<|xL p e).push<|xI x t pt s.heap.objs.size pos lim}):Yi M A (reNewMatch (.ref pt) (.str x t) 0 pos lim m) Q E s:=by unfold reNewMatch;refine ?_;refine g7<|gI (gI ?_<|by show(6:Y9)<=k8+2;decide) (by show(2:Y9)<=k8;decide);rw[λo=>lL ..];refine zJ5 h1<|zJ5 h2<|zJ5 h3 ?_;exact u
set_option tactic.hygienic true in theorem Iw{pt:Addr}{x:Str}{t:Tok}{is:List Int}{rest:Lv}{code:Array Nat}(P:ox s.heap pt code)(h:nn is rest)(I:-2^63<=zB is)(N:zB is<2^63)(L:-2^63<=zC is)(J:zC is<2^63){r:Option<|Nat×Nat}(u:zG code x.cps (min (zB is).toNat x.cps.size) (min (zC is).toNat x.cps.size)=some r){Q:PySem.Fin->j8->Prop}(hs:∀p e,r=some (p,e)->Q (.done<|.ret<|.ref<|s.heap.objs.size+1) {s with heap:=(s.heap.push<|xL p e).push<|xI x t pt s.heap.objs.size (min (zB is).toNat x.cps.size)<|min (zC is).toNat x.cps.size})(O:r=none->Q (.done<|.ret .none) s):wpAny M A (Builtin.«re.Pattern.match» ⟨.ref pt::.str x t::rest,[]⟩) Q E s:=by
 unfold Builtin.«re.Pattern.match»;refine g7<|Iu P h I N L J ?_;dsimp only;unfold zG BL BK at u;refine g7<|yi (n:=20000) ?_ iu (λF=>?_) λF=>?_;.generalize Sre.M.outcome _=oo at u|-;cases oo with|none=>exact lz u|some q=>cases q with|matched=>exact .inl Y7|failed=>exact .inr Y7|_=>exact lz u
 .rw[F]at u;dsimp only at u;split at u;.rename_i hi;dsimp only;exact g7<|Iv Y7 Y7 hi<|j6<|hs _ _ (c0 u).symm
  .exact lz u
 .rw[F]at u;exact j6<|O (c0 u).symm
theorem Pi{b pt:YF}{x:Yg}{t:b_}{is:Yb Yh}{rest:Lv}{code:Yp Y9}(N:s.heap.get? b=Y6 (ph "re.Pattern.match" pt))(P:ox s.heap pt code)(h:nn is rest)(F:-2^63<=zB is)(L:zB is<2^63)(J:-2^63<=zC is)(I:zC is<2^63){r:Yd<|Nat×Y9}(O:zG code x.cps (Ze (zB is).toNat x.cps.size) (Ze (zC is).toNat x.cps.size)=Y6 r){Q:Pv}(hs:∀p e,r=Y6 (p,e)->Q (.ref<|s.heap.objs.size+1) {s with heap:=(s.heap.push<|xL p e).push<|xI x t pt s.heap.objs.size (Ze (zB is).toNat x.cps.size)<|min (zC is).toNat x.cps.size})(S:r=Y8->Q .none s):Yi (Zs prog w) A (Zm (.ref b)<|.str x t::rest) Q E s:=by
 refine mI<|rE<|g7<|iD N ?_;show Yi _ _ (if(YM "builtin_function_or_method"==YM "method"||Value.type "builtin_function_or_method"==YM "builtin_function_or_method"||Value.type "builtin_function_or_method"==YM "method-wrapper")=Ye then _ else _) _ _ _;refine ?_;show Yi _ _ (if YM "builtin_function_or_method"!=YM "method"then _ else _) _ _ _;refine ?_;refine g7<|Pg P h<|g7<|j6<|j6<|⟨oP _ jg,rF It<|Iw P h F L J I O ?_ ?_⟩;.intro p e u;exact hs p e u
 .intro u;exact S u
end
theorem kB:PlainAttrs "re.Match":=⟨⟨"object.__getattribute__",by kernel_rfl,jg⟩,by kernel_rfl⟩
theorem Ix:Slot "re.Match" "end" "re.Match.end":=.of (owner:="re.Match") (n:="end") (by kernel_rfl) jg jg jg
  (by first|exact .inl<|by decide+kernel|exact .inr<|by decide+kernel)<|by kernel_rfl
section
variable{M:Zb}{A:cG}{E:Pv}{s:j8}{prog:lG}{w:YB}
structure pw(h:pJ)(a p e:Y9):Prop where b:∃o ot vs items tp aU t u,h.get? a=Y6 o/\o.cls=.type "re.Match"/\o.data=.fields vs/\vs.getD 5 .none=.ref tp/\h.get? tp=Y6 ot/\ot.data=.seq items aU/\items.toList=[.int p t,.int e u]
theorem Fk{a p e:Y9}{name F:YA}(X:pw s.heap a p e){Q:ReFound×Y9->j8->Prop}(N:∀x,x.spans=#[(p:Yh),(e:Yh)]->Q (x,0) s):Yi M A (reOneGroup name F ⟨[.ref a],[]⟩) Q E s:=g7<|dX (a:=(.ref a,[])) Y7<|g7<|by refine bC λJ=>?_;obtain⟨o,ot,vs,items,T,U,t,u,h1,h2,h3,h4,h5,S,L⟩:=X.b;refine J ?_;refine g7<|wpAny_fieldsOf h1 h3 ?_;erw[h4];refine g7<|g7<|wpAny_seqItems h5 S<|j6<|j6<|(λx O=>g7<|j6<|j6<|N x O) _ ?_;obtain⟨l⟩:=items;have I:l=[.int p t,.int e u]:=L;subst I;erw[List.map_toArray];rfl
theorem Pj{a p e:Y9}(X:pw s.heap a p e){Q:c_->j8->Prop}(u:Q (.done<|.ret<|.int e s.toks) {s with toks:=s.toks+1}):Yi M A (Builtin.«re.Match.end» ⟨[.ref a],[]⟩) Q E s:=by unfold Builtin.«re.Match.end»;refine g7<|Fk X λx F=>?_;dsimp only;erw[F];exact g7<|oY<|j6 u
theorem Pk{a p e:Y9}(X:pw s.heap a p e){Q:Pv}(I:Q (.int e s.toks) {s with toks:=s.toks+1}):Yi (Zs prog w) A (Zm (.builtin "re.Match.end") [.ref a]) Q E s:=by refine bC λF=>?_;obtain⟨o,ot,vs,items,J,L,t,u,h1,h2,_⟩:=X.b;refine F<|iH Ix ⟨o,h1,h2⟩ (iG<|by kernel_rfl:entryFor table "re.Match.end"=Y6 Builtin.«re.Match.end») ?_<|(by unfold argsOk;refine ?_;kernel_rfl);exact Pj X ⟨_,Y7,I⟩
def mc(len:Y9)(i:Yh):Y9:=(max 0<|if i<0 then i+len else i).toNat
def kA(x y:Yg)(lo hi:Y9):Yh:=match lM x y lo hi with|some i=>(i:Yh)|none=>-1
theorem Pl{x y:Yg}{t u v v':b_}{i j:Yh}{Q:Pv}(I:Q (.int (kA x y (mc x.length i)<|min (mc x.length j) x.length) s.toks) {s with toks:=s.toks+1}):Yi (Zs prog w) A (Zm (.builtin "str.rfind") [.str x t,.str y u,.int i v,.int j v']) Q E s:=call_gives pU (eS s x t) PySem.F.entry_str_rfind (PySem.F.args_str_rfind_4 _ _ _ _) (by show Gives (match lM x y (mc x.length i) (Ze (mc x.length j) x.length)with|some i=>retInt i|none=>do rule "str.rfind.not-found";retInt<|-1) _;unfold kA;cases lM x y (mc x.length i) (Ze (mc x.length j) x.length)with|none=>exact .rule<|.of_eq Y7|some i=>exact .of_eq Y7:Gives (Builtin.«str.rfind» ⟨[.str x t,.str y u,.int i v,.int j v'],[]⟩)<|.int<|kA x y (mc x.length i)<|min (mc x.length j) x.length) I
end
end Mine.Lake.Re
namespace Mine.Lake.Re
open PySem PySem.Sre
def ka(m:M)(Q:M->Prop)(k:Y9):Prop:=∃n,n<=k/\Q (dB n m)
theorem ka.L{m:M}{Q:M->Prop}(h:Q m):ka m Q 0:=⟨0,j7 _,h⟩
theorem ka.N{m:M}{Q R:M->Prop}{k l:Y9}(h:ka m Q k)(g:∀m',Q m'->ka m' R l):ka m R<|k+l:=am h λn F q=>am (g _ q) λI u r=>⟨n+I,dS F u,by rw[xM];exact r⟩
theorem ka.mono{m:M}{Q:M->Prop}{k l:Y9}(h:ka m Q k)(F:k<=l):ka m Q l:=am h λn u q=>⟨n,g8 u F,q⟩
theorem ka.step{m:M}{Q:M->Prop}{k:Y9}(F:m.outcome=Y8)(h:ka m.step Q k):ka m Q<|k+1:=by refine am h λn u q=>⟨n+1,w6 u,?_⟩;show Q<|if m.outcome.isSome then m else dB n m.step;rw[d8<|by rw[F];decide];exact q
set_option tactic.hygienic true in def Iy:{F:M->Nat->M//∀m,m.exec=F m (m.word 0)}:=by refine⟨?F,λm=>?h⟩;case h=>unfold M.exec;generalize m.word 0=w;exact rfl
theorem yj{m:M}{k:Y9}(h:m.word 0=k):m.exec=Iy.1 m k:=h▸Iy.2 m
def one(m:M)(k:Y9):Except YA (Yj×Z6)->M|.error u=>({m with seen:=m.seen.add k}:M).stick u|.ok (Yc,seen)=>({m with seen}:M).say Yc|.ok (Ye,seen)=>{m with seen,pc:=m.pc+f_ m.code m.pc,pos:=m.pos+1}
section
variable{m:M}
theorem Pm{k:Y9}(h:m.word 0=k)(hk:k=2\/k=3\/k=13\/k=16):m.exec=if m.pos≥m.lim then({m with seen:=m.seen.add k}:M).say Yc else one m k<|accepts m.code m.pc (m.text.getD m.pos 0)<|m.seen.add k:=by refine(by rcases hk with rfl|rfl|rfl|rfl<;>exact yj h:m.exec=if m.pos≥m.lim then({m with seen:=m.seen.add k}:M).say Yc else match YV m.code m.pc (m.text.getD m.pos 0) (m.seen.add k)with|.error F=>({m with seen:=m.seen.add k}:M).stick F|.ok (Yc,seen)=>({m with seen}:M).say Yc|.ok (Ye,seen)=>{m with seen,pc:=m.pc+f_ m.code m.pc,pos:=m.pos+1}).trans ?_;cases YV m.code m.pc (m.text.getD m.pos 0) (m.seen.add k)with|error w=>rfl|ok r=>obtain⟨u,I⟩:=r;cases u<;>rfl
theorem Pn(h:m.word 0=1):m.exec=if m.outermost&&(m.wholeText&&m.pos !=m.lim||m.mustAdvance&&m.pos==m.start)then({m with seen:=m.seen.add 1}:M).say Yc else({m with seen:=m.seen.add 1,handed:=m.pos}:M).say Ye:=yj h
theorem Po(h:m.word 0=15):m.exec={m with seen:=m.seen.add 15,pc:=m.pc+1+m.word 1}:=yj h
theorem IA(h:m.word 0=7):m.exec=({m with seen:=m.seen.add 7}:M).alternative (m.pc+1) (m.keep m.inner.isSome):=yj h
theorem Pp(h:m.word 0=23):m.exec=({m with seen:=m.seen.add 23,loops:=m.loops.push {pc:=m.pc,outer:=m.inner},inner:=Y6 m.loops.size}:M).attempt {m.frame .closeLoop with loop:=m.loops.size} (m.pc+1+m.word 1) m.pos m.outermost:=yj h
theorem Pq(h:m.word 0=18):m.exec=({m with seen:=m.seen.add 18,pc:=m.pc+1}:M).until_ Ye:=yj h
theorem Pr(h:m.word 0=5)(h2:m.word 2=0):m.exec=({m with seen:=m.seen.add 5}:M).attempt {m.frame .lookNot with kept:=m.keep<|true&&m.inner.isSome} (m.pc+3) m.pos Yc:=by refine zJ5 (by exact yj h:m.exec=if m.pos<m.word 2 then{m with seen:=m.seen.add 5,pc:=m.pc+1+m.word 1}else({m with seen:=m.seen.add 5}:M).attempt {m.frame .lookNot with kept:=m.keep<|true&&m.inner.isSome} (m.pc+3) (m.pos-m.word 2) Yc)<|zJ5 h2 ?_;rfl
theorem Ps(h:m.word 0=24)(h2:m.word 2=0)(hp:m.pos<=m.lim){n:Y9}{sn:Z6}(F:x_ m.code m.text (m.pc+4) (Ze (m.word 3)<|m.lim-m.pos) m.pos 0 ((m.seen.add 24).add<|m.word 4)=.ok (n,sn)):m.exec=({m with seen:=sn,pos:=m.pos+n}:M).afterRun .giveBack n (m.keep m.inner.isSome):=by refine zJ5 (by exact yj h:m.exec=if((m.word 2:Y9):Yh)>(m.lim:Yh)-m.pos then({m with seen:=m.seen.add 24}:M).say Yc else match x_ m.code m.text (m.pc+4) (Ze (m.word 3) ((m.lim:Yh)-m.pos).toNat) m.pos 0<|(m.seen.add 24).add<|m.word 4with|.error u=>({m with seen:=m.seen.add 24}:M).stick u|.ok (n,seen)=>if n<m.word 2 then({m with seen}:M).say Yc else({m with seen,pos:=m.pos+n}:M).afterRun .giveBack n<|m.keep m.inner.isSome)<|zJ5 h2<|zJ5 (d8<|by exact F_.mpr<|Int.sub_nonneg_of_le<|Int.ofNat_le.mpr hp)<|zJ5 (show((m.lim:Yh)-m.pos).toNat=m.lim-m.pos by simp)<|zJ5 F ?_;rfl
end
structure Cv where
 code:Yp Y9
 text:Yp Y9
 lim:Y9
 start:Y9
 ls:Y9
def K0(w:Yj):Sre.Kept:={whole:=w}
def Mf(w:Wait)(pc pos:Y9)(om:Yj)(ct:Yh)(kw:Yj)(lp:Y9)(u:Yd Y9):fF:={wait:=w,pc,pos,outermost:=om,count:=ct,kept:=K0 kw,loop:=lp,began:=u}
def Ms(c:Cv)(pc pos hd:Y9)(om:Yj)(fs:Yb fF)(lp:Yp mS)(inn:Yd Y9)(ans:Yd Yj)(sn:Z6):M:={code:=c.code,text:=c.text,lim:=c.lim,start:=c.start,lastStart:=c.ls,pc,pos,handed:=hd,outermost:=om,marks:=#[],loops:=lp,inner:=inn,frames:=fs,weight:=fs.length,answer:=ans,seen:=sn}
def yI(fs:Yb fF):Prop:=fs.length<10000
section
variable{c:Cv}{pc pos hd k:Y9}{om:Yj}{fs:Yb fF}{lp:Yp mS}{inn:Yd Y9}{sn:Z6}{Q:M->Prop}
theorem CP{w:Yj}{a:Yd Yj}:(Ms c pc pos hd om fs lp inn a sn).keep w=K0 w:=by cases w<;>rfl
theorem tY{w:Yj}{a:Yd Yj}:(Ms c pc pos hd om fs lp inn a sn).putBack (K0 w)=Ms c pc pos hd om fs lp inn a sn:=by cases w<;>rfl
theorem IB{w:Wait}{p q t u:Y9}{o o' kw:Yj}{ct:Yh}{l:Y9}{F:Yd Y9}(I:yI fs):(Ms c pc pos hd om fs lp inn Y8 sn).attempt (Mf w p q o ct kw l F) t u o'=Ms c t u u o' (Mf w p q o ct kw l F::fs) lp inn Y8 sn:=by refine(d8<|Nat.not_lt.mpr<|g8 I iu).trans ?_;rfl
theorem yT{w:Wait}{p q t u:Y9}{o o' kw:Yj}{ct:Yh}{l:Y9}{F:Yd Y9}(I:yI fs)(h:ka (Ms c t u u o' (Mf w p q o ct kw l F::fs) lp inn Y8 sn) Q k):ka ((Ms c pc pos hd om fs lp inn Y8 sn).attempt (Mf w p q o ct kw l F) t u o') Q k:=by erw[IB I];exact h
theorem vT(h:pc<c.code.size):(Ms c pc pos hd om fs lp inn Y8 sn).step=(Ms c pc pos hd om fs lp inn Y8 sn).exec:=(d8<|λq=>pz q).trans<|d9 h
theorem Fo{w:Wait}{p q F I:Y9}{o o' kw b:Yj}{ct:Yh}{l:Y9}{u:Yd Y9}:(Ms c F I hd o' (Mf w p q o ct kw l u::fs) lp inn (Y6 b) sn).step=(Ms c p q hd o fs lp inn Y8 sn).resume (Mf w p q o ct kw l u) b:=(d8<|λq=>pz q).trans<|i6 (λz=>M.resume {Ms c p q hd o fs lp inn Y8 sn with weight:=z} (Mf w p q o ct kw l u) b) (mJ _ 1:fs.length+1-(1+0)=fs.length)
theorem CQ{w a:Y9}{b:Yj}(hp:pc<c.code.size)(I:c.code.getD pc 0=w)(hk:w=2\/w=3\/w=13\/w=16)(hi:f_ c.code pc=a)(J:pos<c.lim->∀sn,∃u,YV c.code pc (c.text.getD pos 0) sn=.ok (b,u))(h1:pos<c.lim->b->∀sn,ka (Ms c (pc+a) (pos+1) hd om fs lp inn Y8 sn) Q k)(h2:¬(pos<c.lim/\b)->∀sn,ka (Ms c pc pos hd om fs lp inn (Y6 Yc) sn) Q k):ka (Ms c pc pos hd om fs lp inn Y8 sn) Q<|k+1:=by
 refine ka.step Y7 ?_;rw[vT hp,Pm (m:=Ms c pc pos hd om fs lp inn Y8 sn) (k:=w) I hk];by_cases F:pos<c.lim;.obtain⟨u,e⟩:=J F<|sn.add w;refine(i6 (ka · Q k)<|(d8<|Nat.not_le.mpr F:(if pos≥c.lim then({Ms c pc pos hd om fs lp inn Y8 sn with seen:=sn.add w}:M).say Yc else one (Ms c pc pos hd om fs lp inn Y8 sn) w<|accepts c.code pc (c.text.getD pos 0)<|sn.add w)=one (Ms c pc pos hd om fs lp inn Y8 sn) w (YV c.code pc (c.text.getD pos 0)<|sn.add w)).trans<|by rw[e]).mpr ?_;cases b with|true=>have:=h1 F Y7 u;rw[<-hi]at this;exact this|false=>exact h2 (λq=>pz q.2) u
 .exact(i6 (ka · Q k)<|d9<|Nat.not_lt.mp F).mpr<|h2 (λq=>F q.1) _
theorem CR{d:Y9}(hp:pc<c.code.size)(u:c.code.getD pc 0=16)(F:c.code.getD (pc+1) 0=d)(h1:pos<c.lim->c.text.getD pos 0=d->∀sn,ka (Ms c (pc+2) (pos+1) hd om fs lp inn Y8 sn) Q k)(h2:¬(pos<c.lim/\c.text.getD pos 0=d)->∀sn,ka (Ms c pc pos hd om fs lp inn (Y6 Yc) sn) Q k):ka (Ms c pc pos hd om fs lp inn Y8 sn) Q<|k+1:=by refine CQ (w:=16) (b:=c.text.getD pos 0==d) hp u (.inr<|.inr<|.inr Y7) (by unfold f_;erw[u];rfl) (λz sn=>⟨sn,by unfold YV;refine zJ5 u<|zJ5 F ?_;rfl⟩) (λa b=>h1 a<|gL b) λq=>h2 λr=>q ⟨r.1,by erw[r.2];exact iI _⟩
theorem IC(hp:pc<c.code.size)(u:c.code.getD pc 0=3)(h1:pos<c.lim->∀sn,ka (Ms c (pc+1) (pos+1) hd om fs lp inn Y8 sn) Q k)(h2:¬pos<c.lim->∀sn,ka (Ms c pc pos hd om fs lp inn (Y6 Yc) sn) Q k):ka (Ms c pc pos hd om fs lp inn Y8 sn) Q<|k+1:=CQ (w:=3) (b:=Ye) hp u (.inr<|.inl Y7) (by unfold f_;erw[u];rfl) (λz sn=>⟨sn,by unfold YV;erw[u];rfl⟩) (λa z=>h1 a) λq=>h2 λr=>q ⟨r,Y7⟩
theorem CT{t:Y9}(hp:pc<c.code.size)(u:c.code.getD pc 0=15)(F:pc+1+c.code.getD (pc+1) 0=t)(h:∀sn,ka (Ms c t pos hd om fs lp inn Y8 sn) Q k):ka (Ms c pc pos hd om fs lp inn Y8 sn) Q<|k+1:=by refine ka.step Y7 ?_;refine zJ5 (vT hp)<|zJ5 (Po (m:=Ms c pc pos hd om fs lp inn Y8 sn) u) ?_;subst F;exact h _
theorem ID{u:Y9}{kw:Yj}(F:c.code.getD u 0=0):(Ms c pc pos hd om fs lp inn Y8 sn).alternative u (K0 kw)=Ms c pc pos hd om fs lp inn (Y6 Yc) sn:=d9<|by show(c.code.getD u 0==0)=Ye;erw[F];rfl
theorem Fp{u:Y9}{kw:Yj}(F:c.code.getD u 0≠0)(I:yI fs):(Ms c pc pos hd om fs lp inn Y8 sn).alternative u (K0 kw)=Ms c (u+1) pos pos om (Mf .nextBranch u pos om 0 kw 0 Y8::fs) lp inn Y8 sn:=(d8<|by show¬(c.code.getD u 0==0)=Ye;simpa using F).trans<|IB I
theorem IE(hp:pc<c.code.size)(u:c.code.getD pc 0=7)(F:c.code.getD (pc+1) 0≠0)(I:yI fs)(h:∀sn,ka (Ms c (pc+2) pos pos om (Mf .nextBranch (pc+1) pos om 0 inn.isSome 0 Y8::fs) lp inn Y8 sn) Q k):ka (Ms c pc pos hd om fs lp inn Y8 sn) Q<|k+1:=by refine ka.step Y7 ?_;refine zJ5 (vT hp)<|zJ5 (IA (m:=Ms c pc pos hd om fs lp inn Y8 sn) u)<|zJ5 CP ?_;have:=h<|sn.add 7;rw[<-Fp (pc:=pc) (hd:=hd) (kw:=inn.isSome) F I]at this;exact this
theorem BM{u t:Y9}{kw o':Yj}{F I:Y9}(L:u+c.code.getD u 0=t)(J:yI fs)(h1:c.code.getD t 0≠0->ka (Ms c (t+1) pos pos om (Mf .nextBranch t pos om 0 kw 0 Y8::fs) lp inn Y8 sn) Q k)(h2:c.code.getD t 0=0->ka (Ms c u pos hd om fs lp inn (Y6 Yc) sn) Q k):ka (Ms c F I hd o' (Mf .nextBranch u pos om 0 kw 0 Y8::fs) lp inn (Y6 Yc) sn) Q<|k+1:=by
 refine ka.step Y7 ?_;refine ?_;subst L;show ka (((Ms c u pos hd om fs lp inn Y8 sn).putBack<|K0 kw).alternative (u+c.code.getD u 0)<|K0 kw) Q k;erw[tY];by_cases e:c.code.getD (u+c.code.getD u 0) 0=0;.erw[ID e];exact h2 e
 .erw[Fp e J];exact h1 e
def As(f:Y9->Yj)(text:Yp Y9):Y9->Y9->Y9:=nr (λq=>0) λr p=>if f<|text.getD p 0then r (p+1)+1 else 0
theorem IF{f:Y9->Yj}{code text:Yp Y9}{i:Y9}(J:∀ch sn,∃u,YV code i ch sn=.ok (f ch,u)):∀(n p found:Y9)(sn:Z6),∃u,x_ code text i n p found sn=.ok (found+As f text n p,u):=by intro L;induction L with|zero=>exactλp found sn=>⟨sn,Y7⟩|succ n I=>
  intro p found sn;obtain⟨F,e1⟩:=J (text.getD p 0) sn;show∃u,YV code i (text.getD p 0) sn>>=_=_;erw[e1];show∃u,(if f<|text.getD p 0then x_ code text i n (p+1) (found+1) F else Zg (found,F))=.ok (found+if f<|text.getD p 0then As f text n (p+1)+1 else 0,u);by_cases h:f (text.getD p 0)=Ye;.refine zJ5 (d9 h)<|zJ5 (d9 h) ?_;obtain⟨s2,e2⟩:=I (p+1) (found+1) F;exact⟨s2,by rw[e2,m3,v3 1]⟩
  .refine zJ5 (d8 h)<|zJ5 (d8 h) ?_;exact⟨F,Y7⟩
structure oy(code:Yp Y9)(pc w N:Y9)(f:Y9->Yj):Prop where
 d:pc<code.size
 op:code.getD pc 0=24
 b:code.getD (pc+1) 0=w
 a:code.getD (pc+2) 0=0
 c:code.getD (pc+3) 0=N
 acc:∀ch sn,∃sn',YV code (pc+4) ch sn=.ok (f ch,sn')
theorem Au{w N t n:Y9}{f:Y9->Yj}(R:oy c.code pc w N f)(hp:pos<=c.lim)(J:pc+1+w=t)(F:As f c.text (Ze N<|c.lim-pos) pos=n)(I:yI fs)(h:∀sn,ka (Ms c t (pos+n) (pos+n) om (Mf .giveBack pc (pos+n) om n inn.isSome 0 Y8::fs) lp inn Y8 sn) Q k):ka (Ms c pc pos hd om fs lp inn Y8 sn) Q<|k+1:=by refine ka.step Y7<|bn (IF (text:=c.text) R.acc (Ze N<|c.lim-pos) pos 0<|(sn.add 24).add<|c.code.getD (pc+4) 0) λu e1=>?_;rw[fA,F]at e1;rw[vT R.d,Ps (m:=Ms c pc pos hd om fs lp inn Y8 sn) (n:=n) (sn:=u) R.op R.a hp<|by show x_ c.code c.text (pc+4) (Ze (c.code.getD (pc+3) 0)<|c.lim-pos) pos 0 _=_;rw[R.c];exact e1,CP];subst J;obtain h:=h u;rw[<-R.b]at h;exact yT I h
theorem IG{n w N t:Y9}{f:Y9->Yj}{kw o':Yj}{F I:Y9}(R:oy c.code pc w N f)(L:pc+1+w=t)(J:yI fs)(u:n=0->ka (Ms c pc pos hd om fs lp inn (Y6 Yc) sn) Q k)(h1:∀m,n=m+1->ka (Ms c t (pos-1) (pos-1) om (Mf .giveBack pc (pos-1) om m kw 0 Y8::fs) lp inn Y8 sn) Q k):ka (Ms c F I hd o' (Mf .giveBack pc pos om n kw 0 Y8::fs) lp inn (Y6 Yc) sn) Q<|k+1:=by refine ka.step Y7 ?_;refine ?_;show ka (if(n:Yh)-1<((c.code.getD (pc+2) 0:Y9):Yh)then((Ms c pc pos hd om fs lp inn Y8 sn).putBack<|K0 kw).say Yc else sP {(Ms c pc pos hd om fs lp inn Y8 sn).putBack (K0 kw)with pos:=pos-1} .giveBack ((n:Yh)-1)<|K0 kw) Q k;refine R.a.symm▸tY.symm▸?_;cases n with|zero=>refine ?_;exact u Y7|succ m=>refine zJ5 (by rw[Int.natCast_succ];exact Int.add_sub_cancel _ 1:((m+1:Y9):Yh)-1=(m:Yh))<|?_;subst L;obtain h1:=h1 m Y7;obtain h1:=R.b.symm▸h1;exact yT J h1
theorem CU{t:Y9}(hp:pc<c.code.size)(u:c.code.getD pc 0=23)(I:pc+1+c.code.getD (pc+1) 0=t)(F:yI fs)(h:∀sn,ka (Ms c t pos pos om (Mf .closeLoop pc pos om 0 Yc lp.size Y8::fs) (lp.push {pc:=pc,outer:=inn}) (Y6 lp.size) Y8 sn) Q k):ka (Ms c pc pos hd om fs lp inn Y8 sn) Q<|k+1:=by refine ka.step Y7 ?_;refine zJ5 (vT hp)<|zJ5 (Pp (m:=Ms c pc pos hd om fs lp inn Y8 sn) u) ?_;subst I;exact yT F<|h _
theorem yG{i:Y9}{l:mS}(hp:pc<c.code.size)(L:c.code.getD pc 0=18)(J:(Ms c pc pos hd om fs lp (Y6 i) Y8 sn).loopAt i=l)(I:c.code.getD (l.pc+2) 0=0)(hc:-1<=l.count)(F:yI fs)(h1:(l.count+1<((c.code.getD (l.pc+3) 0:Y9):Yh)\/c.code.getD (l.pc+3) 0=C_)/\l.began≠Y6 pos->∀sn,ka (Ms c (l.pc+4) pos pos om (Mf .maxMore (pc+1) pos om (l.count+1) Ye i l.began::fs) (lp.modify i λl'=>{l' with count:=l.count+1,began:=Y6 pos}) (Y6 i) Y8 sn) Q k)(h2:¬((l.count+1<((c.code.getD (l.pc+3) 0:Y9):Yh)\/c.code.getD (l.pc+3) 0=C_)/\l.began≠Y6 pos)->∀sn,ka (Ms c (pc+1) pos pos om (Mf .maxTail (pc+1) pos om (l.count+1) Yc i Y8::fs) lp l.outer Y8 sn) Q k):ka (Ms c pc pos hd om fs lp (Y6 i) Y8 sn) Q<|k+1:=by
 refine ka.step Y7 ?_;refine zJ5 (vT hp)<|zJ5 (Pq (m:=Ms c pc pos hd om fs lp (Y6 i) Y8 sn) L) ?_;show ka (M.until_ (Ms c (pc+1) pos hd om fs lp (Y6 i) Y8<|sn.add 18) Ye) Q k;have u:=J;show ka (if((Ms c (pc+1) pos hd om fs lp (Y6 i) Y8<|sn.add 18).loopAt i).count+1<((c.code.getD (((Ms c (pc+1) pos hd om fs lp (Y6 i) Y8<|sn.add 18).loopAt i).pc+2) 0:Y9):Yh)then _ else _) Q k;refine zJ5 u<|zJ5 I<|zJ5 (d8<|by show¬l.count+1<0;exact F_.mpr<|Int.add_le_add_right hc 1) ?_;show ka (if((Yk (l.count+1<((c.code.getD (l.pc+3) 0:Y9):Yh))||c.code.getD (l.pc+3) 0==C_)&&l.began !=Y6 pos)=Ye then _ else _) Q k;by_cases e:(l.count+1<((c.code.getD (l.pc+3) 0:Y9):Yh)\/c.code.getD (l.pc+3) 0=C_)/\l.began≠Y6 pos;.refine zJ5 (d9<|by rw[j0,fX,t4,v1,nK];exact e)<|?_;unfold M.round;erw[u];exact yT F<|h1 e _
 .erw[d8<|by rw[j0,fX,t4,v1,nK];exact e];unfold M.afterLoop;refine u.symm▸?_;exact yT F<|h2 e _
theorem CV{i:Y9}{ct:Yh}{F:Yd Y9}{o':Yj}{I J:Y9}{lp':Yp mS}{u:Yd Y9}(N:((lp.modify i λl=>{l with began:=F}).modify i λl=>{l with count:=ct-1})=lp')(L:(lp'.getD i {pc:=0,outer:=Y8}).outer=u)(O:yI fs)(h:ka (Ms c pc pos pos om (Mf .maxTail pc pos om ct Yc i Y8::fs) lp' u Y8 sn) Q k):ka (Ms c I J hd o' (Mf .maxMore pc pos om ct Ye i F::fs) lp inn (Y6 Yc) sn) Q<|k+1:=by refine ka.step Y7 ?_;erw[Fo];subst N L;exact yT O h
theorem Pu{i:Y9}{ct:Yh}{o':Yj}{u F:Y9}(h:ka (Ms c pc pos hd om fs lp (Y6 i) (Y6 Yc) sn) Q k):ka (Ms c u F hd o' (Mf .maxTail pc pos om ct Yc i Y8::fs) lp inn (Y6 Yc) sn) Q<|k+1:=by refine ka.step Y7 ?_;refine ?_;exact h
theorem Pw{i:Y9}{o':Yj}{F J:Y9}{u:Yd Y9}(I:(lp.getD i {pc:=0,outer:=Y8}).outer=u)(h:ka (Ms c pc pos hd om fs lp.pop u (Y6 Yc) sn) Q k):ka (Ms c F J hd o' (Mf .closeLoop pc pos om 0 Yc i Y8::fs) lp inn (Y6 Yc) sn) Q<|k+1:=by refine ka.step Y7 ?_;refine ?_;subst I;exact h
theorem Px(hp:pc<c.code.size)(u:c.code.getD pc 0=5)(h2:c.code.getD (pc+2) 0=0)(F:yI fs)(h:∀sn,ka (Ms c (pc+3) pos pos Yc (Mf .lookNot pc pos om 0 inn.isSome 0 Y8::fs) lp inn Y8 sn) Q k):ka (Ms c pc pos hd om fs lp inn Y8 sn) Q<|k+1:=by refine ka.step Y7 ?_;refine zJ5 (vT hp)<|zJ5 (Pr (m:=Ms c pc pos hd om fs lp inn Y8 sn) u h2)<|zJ5 CP ?_;exact yT F<|h _
theorem Py{o' kw:Yj}{u F:Y9}(h:ka (Ms c pc pos hd om fs lp inn (Y6 Yc) sn) Q k):ka (Ms c u F hd o' (Mf .lookNot pc pos om 0 kw 0 Y8::fs) lp inn (Y6 Ye) sn) Q<|k+1:=by refine ka.step Y7 ?_;refine ?_;exact h
theorem Pz{o' kw:Yj}{u F t:Y9}(I:pc+1+c.code.getD (pc+1) 0=t)(h:ka (Ms c t pos hd om fs lp inn Y8 sn) Q k):ka (Ms c u F hd o' (Mf .lookNot pc pos om 0 kw 0 Y8::fs) lp inn (Y6 Yc) sn) Q<|k+1:=by refine ka.step Y7 ?_;erw[Fo];subst I;show ka ({(Ms c pc pos hd om fs lp inn Y8 sn).putBack (K0 kw)with pc:=_}:M) Q k;erw[tY];exact h
theorem uI(hp:pc<c.code.size)(u:c.code.getD pc 0=1)(h:∀sn,ka (Ms c pc pos pos om fs lp inn (Y6 Ye) sn) Q k):ka (Ms c pc pos hd om fs lp inn Y8 sn) Q<|k+1:=by refine ka.step Y7 ?_;rw[vT hp,Pn (m:=Ms c pc pos hd om fs lp inn Y8 sn) u];show ka (if(om&&(Yc&&pos !=c.lim||false&&pos==c.start))=Ye then _ else _) Q k;rw[d8<|by simp];exact h _
def pe(st:Y9)(r:Yd Y9)(m:M):Prop:=m.start=st/\m.lastindex=-1/\match r with|some e=>m.outcome=Y6 .matched/\m.handed=e|none=>m.outcome=Y6 .failed
def xg(f:fF):Yj:=match f.wait with|.nextStart|.nextBranch|.giveBack|.closeLoop|.maxMore|.maxTail=>Ye|_=>Yc
theorem PA:∀(fs:Yb fF)(m:M),m.frames=fs->m.answer=Y6 Ye->m.outcome=Y8->m.lastindex=-1->fs.all xg->ka m (pe m.start<|some m.handed) (fs.length+1):=by intro I;induction I with|nil=>intro m h1 h2 h3 h4 _;refine ka.step h3<|ka.L ?_;rw[(by unfold M.step;rw[h3,h2,h1];rfl:m.step={m with outcome:=Y6 .matched})];exact⟨Y7,h4,Y7,Y7⟩|cons f fs u=>intro m h1 h2 h3 h4 h5;rw[fK,j0]at h5;obtain⟨w,p,q,o,ct,F,l,J⟩:=f;refine ka.step h3 ?_;rw[(by unfold M.step;rw[h3,h2,h1];rfl:m.step=M.resume {m with answer:=Y8,frames:=fs,weight:=m.weight-(1+F.marks.size),pc:=p,pos:=q,outermost:=o} ⟨w,p,q,o,ct,F,l,J⟩ Ye)];cases w with|nextStart=>exact u _ Y7 Y7 h3 h4 h5.2|nextBranch=>exact u _ Y7 Y7 h3 h4 h5.2|giveBack=>exact u _ Y7 Y7 h3 h4 h5.2|closeLoop=>exact u _ Y7 Y7 h3 h4 h5.2|maxMore=>exact u _ Y7 Y7 h3 h4 h5.2|maxTail=>exact u _ Y7 Y7 h3 h4 h5.2|_=>exact pz h5.1
theorem Av(h:fs.all xg):ka (Ms c pc pos hd om fs lp inn (Y6 Ye) sn) (pe c.start<|some hd)<|fs.length+1:=PA fs _ Y7 Y7 Y7 Y7 h
theorem CW:ka (Ms c pc pos hd om [] lp inn (Y6 Yc) sn) (pe c.start Y8) 1:=ka.step Y7<|ka.L ⟨Y7,Y7,Y7⟩
theorem wH{code text:Yp Y9}{p q:Y9}{r:Yd Y9}(u:p+(ZA code).1<=q)(h:∀sn,ka (Ms ⟨code,text,q,p,0⟩ (ZA code).2 p p Ye [] #[] Y8 Y8 sn) (pe p r) 20000):zG code text p q=Y6 (r.map λe=>(p,e)):=by refine cc (h<|if(ZA code).2==0 then{}else({}:Z6).add 14) λn F h1 h2 h3=>?_;unfold zG BK;rw[(by
  show(if((ZA code).1 !=0&&Yk (p<=q)&&Yk (q-p<(ZA code).1))=Ye then _ else _)=_;rw[d8];.rfl
  .rw[j0,t4];exactλz=>by have:=z.2;lia:forMatch code text 0 p q false false=Ms ⟨code,text,q,p,0⟩ (header code).2 p p true [] #[] none none (if(header code).2==0 then{}else({}:Seen).add 14)),(dO F).symm,xM,zI<|by clear u h;cases r with|none=>rw[h3];rfl|some e=>rw[h3.1];rfl];generalize dB n _=m at h1 h2 h3;unfold BL;clear u h;cases r with|none=>erw[h3];rfl|some e=>erw[h3.1];refine zJ5 (d9 h2)<|zJ5 h1<|zJ5 h3.2 ?_;rfl
theorem vN{code text:Yp Y9}{p q:Y9}(u:(ZA code).1≠0)(hp:p<=q)(F:q-p<(ZA code).1):zG code text p q=Y6 Y8:=by
 refine cc (by refine⟨_,d9 ?_,Y7,Y7,Y7⟩;rw[j0,j0];exact⟨⟨l_.mpr u,i7 hp⟩,i7 F⟩:∃m,forMatch code text 0 p q Yc Yc=m/\m.outcome=Y8/\m.answer=Y6 Yc/\m.frames=[]) λm e h1 h2 h3=>?_;obtain e2:m.step.outcome=Y6 .failed:=by unfold M.step;rw[h1,h2,h3];rfl
 unfold zG BK;rw[e];show BL (if m.outcome.isSome then m else dB 19999 m.step)=_;rw[h1,xb,zI<|by rw[e2];rfl];unfold BL;rw[e2]
end
def xh(t:Yp Y9)(p q:Y9):Ln:=(t.toList.drop p).take<|q-p
structure At(t:Yp Y9)(q p:Y9)(l:Ln):Prop where
 c:xh t p q=l
 le:p<=q
 a:q<=t.size
theorem At.self{t:Yp Y9}{p q:Y9}(h:p<=q)(u:q<=t.size):At t q p<|xh t p q:=⟨Y7,h,u⟩
theorem Fq{t:Yp Y9}{p q:Y9}(h:p<q)(u:q<=t.size):xh t p q=t.getD p 0::xh t (p+1) q:=by
 unfold xh;obtain hp:p<t.toList.length:=by simp only[n8];exact i9 h u
 obtain⟨k,hk⟩:∃k,q-p=k+1:=⟨q-p-1,(iZ<|lD h).symm⟩;simp only[dK hp,hk,fO,eu hk];congr 1;simp only[gG,dM<|by exact hp];rfl
section
variable{t:Yp Y9}{q p d:Y9}{l:Ln}{f:Y9->Yj}
theorem At.L(h:At t q p []):p=q:=by refine fQ h.le<|Nat.not_lt.mp λz=>?_;have:=h.c;rw[Fq z h.a]at this;cases this
theorem At.J(h:At t q p<|d::l):p<q/\t.getD p 0=d/\At t q (p+1) l:=by
 have u:p<q:=bI h.le λz=>by have:=h.c;rw[z]at this;unfold xh at this;rw[gV,rY]at this;exact AZ this
 have:=h.c;rw[Fq u h.a]at this;injection this with e1 e2;exact⟨u,e1,e2,u,h.a⟩
theorem At.O(h:At t q p l):p+l.length=q:=by simp only[<-h.c];unfold xh;simp only[dF,r9,n8];have:=h.le;have:=h.a;lia
theorem At.N:∀{l:Ln}{p:Y9},At t q p l->As f t (q-p) p=(l.takeWhile f).length/\At t q (p+(l.takeWhile f).length) (l.dropWhile f):=by intro I;induction I with|nil=>intro p h;obtain e:=h.L;subst e;rw[gV];exact⟨Y7,h⟩|cons d l F=>
  intro p h;refine bq h.J λh1 h2 h3=>?_;obtain⟨k,hk⟩:∃k,q-p=k+1:=⟨q-p-1,by exact(iZ<|lD h1).symm⟩;rw[(by rw[hk,show q-(p+1)=k by exact eu hk,<-h2];rfl:Re.As f t (q-p) p=if f d then Re.As f t (q-(p+1)) (p+1)+1 else 0),v6,w9];by_cases u:f d=Ye;.rw[d9 u,d9 u,d9 u];refine cg (F h3) λi1 i2=>⟨by rw[i1];rfl,?_⟩;rw[m4,v3 _ 1,<-m3];exact i2
  .rw[d8 u,d8 u,d8 u];exact⟨Y7,h⟩
theorem At.S(h:At t q p l):∀i,i<(l.takeWhile f).length->f (t.getD (p+i) 0):=by induction l generalizing p with|nil=>exactλi hi=>g9 hi<|eV _|cons d l F=>
  intro i hi;refine bq h.J λh1 h2 h3=>?_;rw[v6]at hi;by_cases u:f d=Ye;.rw[d9 u]at hi;cases i with|zero=>rw[rX,h2];exact u|succ i=>rw[show p+(i+1)=p+1+i by exact lF<|m5 _ 1 _];exact F h3 i<|fG hi
  .rw[d8 u]at hi;exact g9 hi<|eV _
end
theorem kZ{f:Y9->Yj}{l:Ln}{d:Y9}{r:Ln}(h:l.dropWhile f=d::r):f d=Yc:=by induction l with|nil=>cases h|cons a l F=>
  rw[w9]at h;by_cases u:f a=Ye;.rw[d9 u]at h;exact F h
  .rw[d8 u]at h;injection h with h1 h2;refine pd h1 ?_;exact lV _▸u
section
variable{c:Cv}{pc hd k:Y9}{om:Yj}{fs:Yb fF}{lp:Yp mS}{inn:Yd Y9}{sn:Z6}{Q:M->Prop}
def IH(c:Cv)(t:Y9)(lp:Yp mS)(inn:Yd Y9)(K pos:Y9):Prop:=∀(hd:Y9)(om:Yj)(fs:Yb fF)(sn:Z6)(Q:M->Prop)(k:Y9),fs.length<100->(∀F u I L J,ka (Ms c F u I L fs lp inn (Y6 Yc) J) Q k)->ka (Ms c t pos hd om fs lp inn Y8 sn) Q (k+K)
theorem yk{n:Y9}(h:fs.length<n)(u:n<=10000):yI fs:=i9 h u
theorem PB{w N t K:Y9}{f:Y9->Yj}{kw:Yj}(R:oy c.code pc w N f)(V:pc+1+w=t)(T:fs.length<99)(X:∀pos,pos<c.lim->f (c.text.getD pos 0)->IH c t lp inn K pos)(U:∀J u F I L,ka (Ms c J u F I fs lp inn (Y6 Yc) L) Q k):∀(n pos O S hd:Y9)(om o':Yj)(sn:Z6),pos<=c.lim->n<=pos->(∀i,i<n->f (c.text.getD (pos-n+i) 0))->ka (Ms c O S hd o' (Mf .giveBack pc pos om n kw 0 Y8::fs) lp inn (Y6 Yc) sn) Q (k+(n+1)*(K+1)):=by intro n;induction n with|zero=>intro pos O S hd om o' sn h1 h2 h3;refine ka.mono (IG R V (yk T iu) (λq=>U ..) λm hm=>g9 hm<|by simp)<|by simp|succ n Y=>intro pos O S hd om o' sn h1 h2 h3;refine ka.mono (k:=k+(n+1)*(K+1)+K+1) (IG R V (yk T iu) λz=>g9 z<|by simp λm hm=>?_) (by rw[sS<|n+1];simp+arith);obtain rfl:=pS hm;exact X (pos-1) (by exact i9 (Nat.sub_one_lt_of_lt h2) h1) (by have:=h3 n<|u8 n;rw[show pos-(n+1)+n=pos-1 by exact by rw[v3 n 1,rV];exact iZ<|gW h2]at this;exact this) _ _ _ _ _ _ (by exact w6 T) λJ u F I L=>Y _ _ _ _ _ _ _ (by exact g8 (iY _ 1) h1) (by exact gW h2) λi hi=>by have:=h3 i (by exact n7 hi);rw[show pos-(n+1)+i=pos-1-n+i by exact by rw[v3 n,rV]]at this;exact this
variable{pos:Y9}{l:Ln}
theorem B9{d:Y9}(h:At c.text c.lim pos l)(hp:pc<c.code.size)(I:c.code.getD pc 0=16)(F:c.code.getD (pc+1) 0=d)(h1:∀r,l=d::r->At c.text c.lim (pos+1) r->∀sn,ka (Ms c (pc+2) (pos+1) hd om fs lp inn Y8 sn) Q k)(h2:(∀r,l≠d::r)->∀sn,ka (Ms c pc pos hd om fs lp inn (Y6 Yc) sn) Q k):ka (Ms c pc pos hd om fs lp inn Y8 sn) Q<|k+1:=by
 refine CR hp I F (λa b sn=>?_) λu=>h2 λr e=>u ?_;.cases l with|nil=>exact g9 h.L<|v9 a|cons c r=>exact h1 r (i6 (·::r)<|h.J.2.1.symm.trans b) h.J.2.2 sn
 .subst e;exact⟨h.J.1,h.J.2.1⟩
theorem II(h:At c.text c.lim pos l)(hp:pc<c.code.size)(u:c.code.getD pc 0=3)(h1:∀d r,l=d::r->At c.text c.lim (pos+1) r->∀sn,ka (Ms c (pc+1) (pos+1) hd om fs lp inn Y8 sn) Q k)(h2:l=[]->∀sn,ka (Ms c pc pos hd om fs lp inn (Y6 Yc) sn) Q k):ka (Ms c pc pos hd om fs lp inn Y8 sn) Q<|k+1:=by cases l with|nil=>exact IC hp u (λa=>g9 h.L<|v9 a) λq=>h2 Y7|cons d r=>exact IC hp u (λq=>h1 d r Y7 h.J.2.2) λz=>g9 h.J.1 z
theorem Fs{w a:Y9}{f:Y9->Yj}(h:At c.text c.lim pos l)(hp:pc<c.code.size)(I:c.code.getD pc 0=w)(hk:w=2\/w=3\/w=13\/w=16)(hi:f_ c.code pc=a)(acc:∀ch sn,∃F,YV c.code pc ch sn=.ok (f ch,F))(h1:∀d r,l=d::r->f d->At c.text c.lim (pos+1) r->∀sn,ka (Ms c (pc+a) (pos+1) hd om fs lp inn Y8 sn) Q k)(h2:(∀d r,l=d::r->f d=Yc)->∀sn,ka (Ms c pc pos hd om fs lp inn (Y6 Yc) sn) Q k):ka (Ms c pc pos hd om fs lp inn Y8 sn) Q<|k+1:=by
 refine CQ hp I hk hi (λq sn=>acc (c.text.getD pos 0) sn) (λa b sn=>?_) λu=>h2 λd r e=>Zl.mpr λz=>u ?_;.cases l with|nil=>exact g9 h.L<|v9 a|cons d r=>exact h1 d r Y7 (h.J.2.1▸b) h.J.2.2 sn
 .subst e;exact⟨h.J.1,by rw[h.J.2.1];exact z⟩
theorem CY{w N t K:Y9}{f:Y9->Yj}(h:At c.text c.lim pos l)(R:oy c.code pc w N f)(L:pc+1+w=t)(S:c.lim<N)(J:fs.length<90)(O:∀p,p<c.lim->f (c.text.getD p 0)->IH c t lp inn K p)(go:At c.text c.lim (pos+(l.takeWhile f).length) (l.dropWhile f)->(∀{k},(∀pc pos hd om sn,ka (Ms c pc pos hd om fs lp inn (Y6 Yc) sn) Q k)->∀{F I hd o' sn},ka (Ms c F I hd o' (Mf .giveBack pc (pos+(l.takeWhile f).length) om (l.takeWhile f).length inn.isSome 0 Y8::fs) lp inn (Y6 Yc) sn) Q<|k+(c.lim+1)*(K+1))->∀sn,ka (Ms c t (pos+(l.takeWhile f).length) (pos+(l.takeWhile f).length) om (Mf .giveBack pc (pos+(l.takeWhile f).length) om (l.takeWhile f).length inn.isSome 0 Y8::fs) lp inn Y8 sn) Q k):ka (Ms c pc pos hd om fs lp inn Y8 sn) Q<|k+1:=by obtain⟨T,s2⟩:=h.N (f:=f);obtain hle:pos+(l.takeWhile f).length<=c.lim:=h.O▸i8 (mT _).length_le _;refine Au R h.le L (by rw[fE<|g8 (iY _ _)<|n6 S];exact T) (yk J iu)<|go s2 λ{_}u{F I hd o' sn}=>ka.mono (PB R L (iE J iu) O u _ _ _ _ _ _ _ _ hle (bA _ _) λi hi=>?_)<|i8 (eK _<|m9<|g8 (bA _ _) hle) _;rw[mJ];exact h.S i hi
end
def IK(code:Yp Y9)(pc:Y9)(l:Ln):Yj:=lr (λq=>Ye) (λd q r pc=>Yk (pc<code.size/\code.getD pc 0=16/\code.getD (pc+1) 0=d)&&r (pc+2)) l pc
def qu(text:Yp Y9)(lim p:Y9)(l:Ln):Yj:=lr (λq=>Ye) (λd q r p=>Yk (p<lim)&&text.getD p 0==d&&r (p+1)) l p
def tO(text:Yp Y9)(lim p:Y9):Yj:=lim !=0&&(Yk (p>0)&&isWordUni (text.getD (p-1) 0))!=(Yk (p<lim)&&isWordUni (text.getD p 0))
def Ft(code:Yp Y9)(E u:Y9)(l:Yb<|Ln):Yj:=lr (λu=>Yk<|code.getD u 0=0) (λw q r u=>Yk (code.getD u 0=2*w.length+3/\u+1+2*w.length<code.size/\code.getD (u+1+2*w.length) 0=15/\u+1+2*w.length+1+code.getD (u+1+2*w.length+1) 0=E)&&(IK code (u+1) w&&r (u+2*w.length+3))) l u
abbrev CZ(code:Yp Y9)(E:Y9):Prop:=E<code.size/\code.getD E 0=6/\code.getD (E+1) 0=10/\E+2<code.size/\code.getD (E+2) 0=1
def my(text:Yp Y9)(lim p:Y9):Yb (Ln)->Yd Y9:=lr Y8 λw q r=>if qu text lim p w&&tO text lim (p+w.length)then Y6 (p+w.length)else r
def qr:Yb (Ln)->Y9:=lr 0 λw q r=>w.length+4+r
section
variable{c:Cv}{pc pos hd k:Y9}{om:Yj}{fs:Yb fF}{lp:Yp mS}{inn:Yd Y9}{sn:Z6}{Q:M->Prop}
theorem IL{a:Y9}{b:Yj}(hp:pc<c.code.size)(I:c.code.getD pc 0=6)(J:c.code.getD (pc+1) 0=a)(F:∀s',({Ms c pc pos hd om fs lp inn Y8 sn with seen:=s'}:M).isAt a=.ok b)(h1:b->∀sn,ka (Ms c (pc+2) pos hd om fs lp inn Y8 sn) Q k)(h2:b=Yc->∀sn,ka (Ms c pc pos hd om fs lp inn (Y6 Yc) sn) Q k):ka (Ms c pc pos hd om fs lp inn Y8 sn) Q<|k+1:=by refine ka.step Y7 ?_;subst J;rw[vT hp,yj (m:=Ms c pc pos hd om fs lp inn Y8 sn) I];show ka (match M.isAt {Ms c pc pos hd om fs lp inn Y8 sn with seen:=sn.add 6}<|c.code.getD (pc+1) 0with|.error L=>_|.ok u=>if u then _ else _) Q k;rw[F];cases b with|true=>exact h1 Y7 _|false=>exact h2 Y7 _
theorem PC:∀(w:Ln)(pc pos:Y9)(sn:Z6),IK c.code pc w->(qu c.text c.lim pos w->∀sn,ka (Ms c (pc+2*w.length) (pos+w.length) hd om fs lp inn Y8 sn) Q k)->(qu c.text c.lim pos w=Yc->∀pc pos sn,ka (Ms c pc pos hd om fs lp inn (Y6 Yc) sn) Q k)->ka (Ms c pc pos hd om fs lp inn Y8 sn) Q (k+w.length):=by intro w;induction w with|nil=>exactλy y sn y h y=>h Y7 sn|cons d r I=>
  intro pc pos sn h hy u;refine bC λF=>?_;obtain⟨h,h4⟩:=YE.mp h;obtain⟨h1,h2,h3⟩:=k9 h;refine F ?_;refine CR (k:=k+r.length) h1 h2 h3 (λa b sn=>I _ _ sn h4 (λq sn=>?_) λq=>u<|?_) λq sn=>ka.mono (u ?_ _ _ sn)<|m7 _ _;.have:=hy (by show(Yk (pos<c.lim)&&c.text.getD pos 0==d&&qu c.text c.lim (pos+1) r)=Ye;rw[i7 a,b,q];simp) sn;rw[m4,Nat.mul_add,v3<|2*_,v3 r.length,<-m3,<-m3]at this;exact this
  .show(_&&qu c.text c.lim (pos+1) r)=Yc;rw[q,rZ]
  .show(Yk (pos<c.lim)&&c.text.getD pos 0==d&&_)=Yc;refine Zl.mpr λz=>q ?_;rw[j0,j0,t4,v1]at z;exact z.1
set_option tactic.hygienic true in theorem PD{E:Nat}{kw:Bool}(T:CZ c.code E)(Y:yI fs):∀(F:List<|Ln)(u pc hd:Nat)(sn:Seen),Ft c.code E u F->(∀e,my c.text c.lim pos F=some e->∀pc pos om sn,ka (Ms c pc pos e om fs lp inn (some true) sn) Q k)->(my c.text c.lim pos F=none->∀pc pos hd om sn,ka (Ms c pc pos hd om fs lp inn (some false) sn) Q k)->ka ((Ms c pc pos hd om fs lp inn none sn).alternative u<|K0 kw) Q (k+qr F):=by intro F;induction F with|nil=>intro u pc hd sn h _ J;erw[ID<|k9 h];exact J rfl ..|cons w r ih=>
  intro u pc hd sn h hy J;refine bC λV=>?_;obtain⟨h,O⟩:=YE.mp h;obtain⟨X,O⟩:=YE.mp O;obtain⟨U,a3,a4,Z⟩:=k9 h;refine V ?_;have next:(qu c.text c.lim pos w&&tO c.text c.lim (pos+w.length))=Yc->∀N I hd L sn,ka (Ms c N I hd L (Mf .nextBranch u pos om 0 kw 0 Y8::fs) lp inn (Y6 Yc) sn) Q<|k+qr r+1:=λS N I hd L sn=>by obtain e:my c.text c.lim pos (w::r)=my c.text c.lim pos r:=d8 (by rw[S];decide);rw[e]at hy J;refine ka.step Y7 ?_;show ka (((Ms c u pos hd om fs lp inn Y8 sn).putBack<|K0 kw).alternative (u+c.code.getD u 0)<|K0 kw) Q _;rw[tY,U];exact ih _ _ _ _ O hy J
  rw[Fp (by rw[U];exact Nat.succ_ne_zero _) Y,show k+qr (w::r)=k+qr r+4+w.length by show k+(w.length+4+qr r)=_;simp+arith];refine PC w _ _ sn X (λq sn=>CT (k:=k+qr r+3) a3 a4 Z λsn=>IL (k:=k+qr r+2) T.1 T.2.1 T.2.2.1 (b:=tO c.text c.lim<|pos+w.length) (λy=>i6 (λz=>Except.ok<|c.lim !=0&&z)<|beq_true _) (λz sn=>uI (k:=k+qr r+1) T.2.2.2.1 T.2.2.2.2 λsn=>ka.step Y7<|ka.mono (hy _ (d9<|by rw[q,z];rfl) ..)<|m7 _ _) λz sn=>ka.mono (next (by rw[q,z];rfl) ..)<|fM _) λq pc pos sn=>ka.mono (next (by rw[q];rfl) ..)<|i8 iu _
theorem IM{w N t E:Y9}{f:Y9->Yj}{u:Yb<|Ln}{l:Ln}(h:At c.text c.lim pos l)(R:oy c.code pc w N f)(X:pc+1+w=t)(L:t<c.code.size/\c.code.getD t 0=7)(A:Ft c.code E (t+1) u)(T:CZ c.code E)(U:∀w∈u,w.head?.any λd=>!f d)(S:c.lim<N)(F:fs.length<90)(hy:∀e,my c.text c.lim (pos+(l.takeWhile f).length) u=Y6 e->∀pc pos om sn,ka (Ms c pc pos e om fs lp inn (Y6 Ye) sn) Q k)(J:my c.text c.lim (pos+(l.takeWhile f).length) u=Y8->∀pc pos hd om sn,ka (Ms c pc pos hd om fs lp inn (Y6 Yc) sn) Q k):ka (Ms c pc pos hd om fs lp inn Y8 sn) Q<|k+(c.lim+2)*(qr u+2):=by
 have no:∀p,f (c.text.getD p 0)=Ye->∀u:Yb<|Ln,(∀w∈u,(w.head?.any λd=>!f d)=Ye)->my c.text c.lim p u=Y8:=λp h u=>by induction u with|nil=>exactλq=>Y7|cons w u V=>intro O;obtain h1:=O w<|.head _;cases w with|nil=>exact pz h1|cons d r=>refine(d8 λz=>?_).trans<|V λw h=>O w<|.tail _ h;obtain z:(Yk (p<c.lim)&&c.text.getD p 0==d&&qu c.text c.lim (p+1) r&&_)=Ye:=z;rw[j0,j0,j0,v1]at z;obtain h1:(!f d)=Ye:=h1;rw[<-z.1.1.2,h]at h1;exact pz h1
 have br:∀{k p hd om fs sn Q},yI fs->(∀e,my c.text c.lim p u=Y6 e->∀pc pos om sn,ka (Ms c pc pos e om fs lp inn (Y6 Ye) sn) Q k)->(my c.text c.lim p u=Y8->∀pc pos hd om sn,ka (Ms c pc pos hd om fs lp inn (Y6 Yc) sn) Q k)->ka (Ms c t p hd om fs lp inn Y8 sn) Q (k+qr u+1):=λ{k p hd om fs sn Q}F hy J=>by refine ka.step Y7 ?_;rw[vT L.1,IA (m:=Ms c t p hd om fs lp inn Y8 sn) L.2,CP];exact PD T F u _ _ _ _ A hy J
 refine ka.mono (CY (K:=qr u+1) h R X S F (λp h1 h2 hd om fs sn Q k F hk=>br (yk F iu) (λe I=>by rw[no p h2 u U]at I;cases I) λq=>hk) λq back sn=>br (k:=k+(c.lim+1)*(qr u+1+1)) (r5 (mP F) iu) (λe I pc pos om sn=>ka.mono (ka.step Y7<|hy e I ..)<|i8 (Nat.mul_pos (eG _)<|eG _) _) λI pc pos hd om sn=>back<|J I) ?_;refine g8 (eJ<|m3 k ((c.lim+1)*(qr u+2))<|qr u+2)<|i8 (eJ ?_) _;rw[<-sS]
end
def mf(c:Y9):Yj:=c==32||c==9
theorem Fu{code:Yp Y9}{i:Y9}(h:∀ch sn,YV code i ch sn=if(ch==32)then .ok (Ye,sn.add 16)else if(ch==9)then .ok (Ye,(sn.add 16).add 16)else .ok (Yc,((sn.add 16).add 16).add 0))(ch:Y9)(sn:Z6):∃u,YV code i ch sn=.ok (mf ch,u):=by rw[h];unfold mf;cases h1:ch==32 with|true=>exact⟨_,Y7⟩|false=>cases h2:ch==9 with|true=>exact⟨_,Y7⟩|false=>exact⟨_,Y7⟩
structure Fv(code:Yp Y9)(ws:Yb<|Ln)(E:Y9):Prop where
 c:5<code.size/\code.getD 5 0=6/\code.getD 6 0=1
 g:oy code 7 11 4294967295 mf
 h:19<code.size/\code.getD 19 0=7
 e:Ft code E 20 ws=Ye
 f:CZ code E
 b:∀w∈ws,(w.head?.any λd=>!mf d)=Ye
 a:code.getD 2 0=0
def jE(text:Yp Y9)(p:Y9):Yj:=p==0||text.getD (p-1) 0==10
def zH(text:Yp Y9)(lim:Y9)(u:Yb<|Ln)(p:Y9):Yd Y9:=if jE text p then my text lim (p+((xh text p lim).takeWhile mf).length) u else Y8
def uB(text:Yp Y9)(lim:Y9)(u:Yb<|Ln):Y9->Y9->Yd (Y9×Y9):=nr (λs=>(zH text lim u s).map λe=>(s,e)) λr s=>match zH text lim u s with|some e=>Y6 (s,e)|none=>r<|s+1
def Fin(r:Yd<|Nat×Y9)(m:M):Prop:=match r with|some (s,e)=>pe s (Y6 e) m|none=>m.outcome=Y6 .failed
def ns(s:Y9)(om:Yj):fF:=Mf .nextStart 5 s om 0 Yc 0 Y8
theorem IN{c:Cv}{s hd p:Y9}{om o:Yj}{sn:Z6}(h:c.code.getD 2 0=0):(Ms c 5 p hd om [] #[] Y8 Y8 sn).attemptFrom s o=Ms {c with start:=s} 5 s s o [ns s o] #[] Y8 Y8 sn:=by unfold M.attemptFrom;obtain e:(Ms c 5 p hd om [] #[] Y8 Y8 sn).hasFirstSet=Yc:=(i6 (and _) (by rw[h];rfl:(c.code.getD 2 0==4)=Yc)).trans<|rZ _;rw[e];rfl
theorem IO{c:Cv}{s p q hd k:Y9}{om o':Yj}{sn:Z6}{Q:M->Prop}(h1:s<c.ls->ka ((Ms c 5 s hd om [] #[] Y8 Y8 sn).attemptFrom (s+1) Yc) Q k)(h2:¬s<c.ls->ka (Ms c 5 s hd om [] #[] Y8 (Y6 Yc) sn) Q k):ka (Ms c p q hd o' [ns s om] #[] Y8 (Y6 Yc) sn) Q<|k+1:=by
 refine ka.step Y7<|zJ5 Fo ?_;show ka (if s<c.ls then M.attemptFrom (Ms c 5 s hd om [] #[] Y8 Y8 sn) (s+1) Yc else _) Q k;by_cases e:s<c.ls;.rw[d9 e];exact h1 e
 .rw[d8 e];exact h2 e
theorem PE{code text:Yp Y9}{F:Yb<|Ln}{E lim ls:Y9}(P:Fv code F E)(N:lim<4294967295)(hs:lim<=text.size)(J:ls<=lim):∀(n s:Y9)(om:Yj)(sn:Z6),s+n=ls->ka (Ms ⟨code,text,lim,s,ls⟩ 5 s s om [ns s om] #[] Y8 Y8 sn) (Fin<|uB text lim F n s) ((n+1)*((lim+2)*(qr F+2)+4)):=by have body:∀{s om sn r k},s<=lim->(∀e,zH text lim F s=Y6 e->r=Y6 (s,e))->(zH text lim F s=Y8->∀pc pos hd I sn,ka (Ms ⟨code,text,lim,s,ls⟩ pc pos hd I [ns s om] #[] Y8 (Y6 Yc) sn) (Fin r)<|k+2)->ka (Ms ⟨code,text,lim,s,ls⟩ 5 s s om [ns s om] #[] Y8 Y8 sn) (Fin r) (k+2+(lim+2)*(qr F+2)+1):=λ{s om sn r k}h1 hy L=>IL (c:=⟨code,text,lim,s,ls⟩) (b:=jE text s) P.c.1 P.c.2.1 P.c.2.2 (λq=>Y7) (λz sn=>IM (c:=⟨code,text,lim,s,ls⟩) (At.self h1 hs) P.g Y7 P.h P.e P.f P.b N (by show 1<90;decide) (λe u pc pos I sn=>by rw[hy e<|(d9 z).trans u];exact ka.mono (Av<|by rfl)<|bA _ _) λu=>L<|(d9 z).trans u) λz sn=>ka.mono (L (d8<|by rw[z];decide) ..)<|m7 _ _;intro n;induction n with|zero=>intro s om sn h;exact ka.mono (body (k:=0) (g8 (eJ h) J) (λe u=>i6 (pV _) u) λu pc pos hd I sn=>IO (k:=1) (λz=>g9 h<|v9 z) λq=>ka.step Y7<|ka.L<|by show Fin ((zH text lim F s).map _) _;rw[u];rfl)<|by simp+arith|succ n O=>intro s om sn h;refine ka.mono (body (k:=(n+1)*((lim+2)*(qr F+2)+4)) (g8 (lR h) J) λe u=>by show(match zH text lim F s with|some e=>Y6 (s,e)|none=>_)=_;rw[u] λu pc pos hd I sn=>ka.mono (IO (λq=>?_) λz=>g9 (h▸dH (eG n)) z)<|fM _) (by rw[sS<|n+1];simp+arith);show ka _ (Fin<|match zH text lim F s with|some e=>Y6 (s,e)|none=>uB text lim F n<|s+1) _;rw[u,IN P.a];exact O _ _ _<|(m5 _ 1 _).trans h
def xJ(text:Yp Y9)(u:Yb<|Ln)(pos lim:Y9):Yd<|Nat×Y9:=if lim<pos+3 then Y8 else uB text lim u (lim-2-pos) pos
theorem PF{code text:Yp Y9}{F:Yb<|Ln}{E pos lim:Y9}(P:Fv code F E)(I:code.getD 0 0=14)(h1:code.getD 1 0=4)(h3:code.getD 3 0=3)(J:lim<4294967295)(hs:lim<=text.size):ka (forSearch code text 0 pos lim Yc) (Fin<|xJ text F pos lim)<|(lim+1)*((lim+2)*(qr F+2)+4)+1:=by
 rw[(by intro hd e;subst e;rfl:∀hd:Y9×Y9,ZA code=hd->forSearch code text 0 pos lim Yc=if(Yk (pos>lim)||decide (lim-pos<hd.1))=Ye then Ms ⟨code,text,lim,pos,0⟩ hd.2 pos pos Ye [] #[] Y8 (Y6 Yc)<|if(hd.2==0)then{}else({}:Z6).add 14 else(Ms ⟨code,text,lim,pos,if(Yk (hd.1>1)&&!(hd.2 !=0&&code.getD 2 0&&&5 !=0))=Ye then max pos<|lim-(hd.1-1)else lim⟩ hd.2 pos pos Ye [] #[] Y8 Y8<|if(hd.2==0)then{}else({}:Z6).add 14).attemptFrom pos Ye) _ (by unfold ZA;rw[I];show(code.getD 3 0,1+code.getD 1 0)=_;rw[h3,h1]:ZA code=(3,5))];unfold xJ;dsimp only;by_cases u:lim<pos+3;.rw[d9<|by simp;exact(pW _ _).imp id λq=>lY q u,d9 u];exact ka.mono (ka.step Y7<|ka.L Y7)<|bA _ _
 .rw[d8<|by simp;exact⟨g8 (m7 _ 3)<|Nat.not_lt.mp u,nE<|Nat.not_lt.mp u⟩,d8 u,(by rw[P.a];refine(d9 iu).trans ?_;exact Nat.max_eq_right<|fY<|t9<|Nat.not_lt.mp u:(if(Yk ((3:Y9)>1)&&!((5:Y9)!=0&&code.getD 2 0&&&5 !=0))=Ye then max pos<|lim-(3-1)else lim)=lim-2),IN P.a];exact ka.mono (PE P J hs (iY _ 2) (lim-2-pos) pos Ye _<|dR<|fY<|t9<|Nat.not_lt.mp u)<|g8 (eK _<|m9<|g8 (iY _ _)<|iY _ _)<|fM _
end Mine.Lake.Re
namespace Mine.Lake.Re
open PySem PySem.Sre PySem.Builtin.Re
section
variable{M':Zb}{A:cG}{E:Pv}{s:j8}
theorem Ax{m:M}{r:Yd<|Nat×Y9}{k:Y9}(h:ka m (Fin r) k)(hk:k<=4*2^64){Q:Yd M->j8->Prop}(hs:∀m' p e,r=Y6 (p,e)->m'.start=p->m'.handed=e->m'.lastindex=-1->Q (Y6 m') s)(J:r=Y8->Q Y8 s):Yi M' A (V_ m) Q E s:=by refine bC λu=>?_;obtain⟨n,I,F⟩:=h;refine u ?_;have go:∀{o},(dB n m).outcome=Y6 o->_->Yi M' A (V_ m) Q E s:=λ{o}e q=>g7<|Iq (2^64) m n (by rw[e];rfl) (g8 I hk) iu<|g7<|Ir _ q;cases r with|none=>refine go F ?_;rw[show(dB n m).outcome=Y6 .failed from F];exact j6<|J Y7|some x=>refine bC λu=>?_;obtain⟨h1,h5,e,h2⟩:=F;refine u ?_;refine go e ?_;rw[e];exact j6<|hs _ _ _ Y7 h1 h2 h5
end
def tP:Yp Y9:=iv.toArray
def me:Yb<|Ln:=[[119,104,105,108,101],[101,108,115,101],[100,101,102],[114,101,116,117,114,110],[97,115,115,101,114,116],[98,114,101,97,107],[99,108,97,115,115],[99,111,110,116,105,110,117,101],[101,108,105,102],[116,114,121],[101,120,99,101,112,116],[114,97,105,115,101],[105,109,112,111,114,116],[121,105,101,108,100]]
theorem PG:Fv tP me 205 where
 c:=jg
 g:=⟨jg,jg,jg,jg,jg,Fu λch sn=>Y7⟩
 h:=jg
 e:=jg
 f:=jg
 b:=Yx.mp jg
 a:=jg
theorem PH{M':Zb}{A:cG}{E:Pv}{s:j8}{text:Yp Y9}{pos lim:Y9}(u:lim<=k8)(I:lim<=text.size){Q:Yd M->j8->Prop}(hs:∀m' p e,xJ text me pos lim=Y6 (p,e)->m'.start=p->m'.handed=e->m'.lastindex=-1->Q (Y6 m') s)(F:xJ text me pos lim=Y8->Q Y8 s):Yi M' A (V_<|forSearch tP text 0 pos lim Yc) Q E s:=by
 obtain hz:k8=16777216:=by decide
 refine Ax (PF PG jg jg jg (r5 (hz▸u) iu) I) ?_ hs F;exact g8 (m9<|Nat.mul_le_mul (show lim+1<=16777217 by simp_all)<|r6 (eK 129<|m9<|m9<|hz▸u) 4) iu
end Mine.Lake.Re
namespace Mine.Lake.Re
open PySem PySem.Sre PySem.Builtin.Re PyProof.Rows
theorem PI:I_ "re.Pattern.search"=Y6 .method:=by kernel_rfl
section
variable{prog:lG}{w:YB}{A:cG}{E:Pv}{s:j8}
theorem PJ{pt:YF}{x:Yg}{t:b_}{is:Yb Yh}{rest:Lv}{code:Yp Y9}{M:Zb}(P:ox s.heap pt code)(h:nn is rest){Q:z_->j8->Prop}(u:Q () s):Yi M A (Zo "re.Pattern.search" ⟨.ref pt::.str x t::rest,[]⟩) Q E s:=by refine cj P.a λop fs ct h1 h2 h3 q=>?_;obtain hT:s.TypeIs (.ref pt) "re.Pattern":=⟨op,h1,h2⟩;unfold Zo;refine zJ5 (by kernel_rfl:iQ "re.Pattern.search"=Y6 ⟨.keywords,"Pattern.search","search",.self,[⟨"string",.posOrKw,Ye⟩,⟨"pos",.posOrKw,Yc⟩,⟨"endpos",.posOrKw,Yc⟩]⟩)<|zJ5 PI ?_;dsimp only;refine ?_;refine g7<|nJ (b:=Yc) hT (by kernel_rfl) ?_;refine ?_;refine g7<|g7<|iD h1<|j6 ?_;erw[h3];refine ?_;exact g7<|wpAny_typeOf hT<|dX (by cases h<;>first|rfl|kernel_rfl) u
end
section
variable{prog:lG}{w:YB}{A:cG}{E:Pv}{s:j8}{M:Zb}
theorem PL{pt:YF}{x:Yg}{t:b_}{is:Yb Yh}{rest:Lv}(P:ox s.heap pt tP)(h:nn is rest)(L:x.length<=k8)(F:-2^63<=zB is)(N:zB is<2^63)(J:-2^63<=zC is)(I:zC is<2^63){Q:c_->j8->Prop}(hs:∀p e,xJ x.cps me (Ze (zB is).toNat x.cps.size) (Ze (zC is).toNat x.cps.size)=Y6 (p,e)->Q (.done<|.ret<|.ref<|s.heap.objs.size+1) {s with heap:=(s.heap.push<|xL p e).push<|xI x t pt s.heap.objs.size (Ze (zB is).toNat x.cps.size)<|min (zC is).toNat x.cps.size})(O:xJ x.cps me (Ze (zB is).toNat x.cps.size) (Ze (zC is).toNat x.cps.size)=Y8->Q (.done<|.ret .none) s):Yi M A (Builtin.«re.Pattern.search» ⟨.ref pt::.str x t::rest,[]⟩) Q E s:=by unfold Builtin.«re.Pattern.search»;refine g7<|Iu P h F N J I ?_;obtain hlen:x.cps.size<=k8:=L;exact g7<|PH (g8 (fR _ _) L) (fR _ _) (λm' p e u h1 h2 h5=>g7<|Iv h1 h2 h5<|j6<|hs p e u) λu=>j6<|O u
theorem PM{b pt:YF}{x:Yg}{t:b_}{is:Yb Yh}{rest:Lv}(N:s.heap.get? b=Y6 (ph "re.Pattern.search" pt))(P:ox s.heap pt tP)(h:nn is rest)(S:x.length<=k8)(F:-2^63<=zB is)(L:zB is<2^63)(J:-2^63<=zC is)(I:zC is<2^63){Q:Pv}(hs:∀p e,xJ x.cps me (Ze (zB is).toNat x.cps.size) (Ze (zC is).toNat x.cps.size)=Y6 (p,e)->Q (.ref<|s.heap.objs.size+1) {s with heap:=(s.heap.push<|xL p e).push<|xI x t pt s.heap.objs.size (Ze (zB is).toNat x.cps.size)<|min (zC is).toNat x.cps.size})(O:xJ x.cps me (Ze (zB is).toNat x.cps.size) (Ze (zC is).toNat x.cps.size)=Y8->Q .none s):Yi (Zs prog w) A (Zm (.ref b)<|.str x t::rest) Q E s:=by
 refine mI<|rE<|g7<|iD N ?_;show Yi _ _ (if(YM "builtin_function_or_method"==YM "method"||Value.type "builtin_function_or_method"==YM "builtin_function_or_method"||Value.type "builtin_function_or_method"==YM "method-wrapper")=Ye then _ else _) _ _ _;refine ?_;show Yi _ _ (if YM "builtin_function_or_method"!=YM "method"then _ else _) _ _ _;refine ?_;refine g7<|PJ P h<|g7<|j6<|j6<|⟨oP _ jg,rF (iG<|by kernel_rfl)<|PL P h S F L J I ?_ ?_⟩;.intro p e u;exact hs p e u
 .intro u;exact O u
end
theorem IP:Slot "re.Match" "start" "re.Match.start":=.of (owner:="re.Match") (n:="start") (by kernel_rfl) jg jg jg
  (by first|exact .inl<|by decide+kernel|exact .inr<|by decide+kernel)<|by kernel_rfl
theorem IQ:Slot "re.Match" "span" "re.Match.span":=.of (owner:="re.Match") (n:="span") (by kernel_rfl) jg jg jg
  (by first|exact .inl<|by decide+kernel|exact .inr<|by decide+kernel)<|by kernel_rfl
section
variable{M:Zb}{A:cG}{E:Pv}{s:j8}{prog:lG}{w:YB}
theorem PN{a p e:Y9}(X:pw s.heap a p e){Q:c_->j8->Prop}(u:Q (.done<|.ret<|.int p s.toks) {s with toks:=s.toks+1}):Yi M A (Builtin.«re.Match.start» ⟨[.ref a],[]⟩) Q E s:=by unfold Builtin.«re.Match.start»;refine g7<|Fk X λx F=>?_;dsimp only;erw[F];exact g7<|oY<|j6 u
theorem PP{a p e:Y9}(X:pw s.heap a p e){Q:c_->j8->Prop}(u:Q (.done<|.ret<|.ref s.heap.objs.size) {s with heap:=s.heap.push {cls:=.type "tuple",data:=.seq #[.int p s.toks,.int e<|s.toks+1]},toks:=s.toks+1+1}):Yi M A (Builtin.«re.Match.span» ⟨[.ref a],[]⟩) Q E s:=by unfold Builtin.«re.Match.span»;refine g7<|Fk X λx F=>?_;dsimp only;erw[F];exact g7<|oY<|g7<|oY<|g7<|wpAny_newTuple (j6 u)<|by show(2:Y9)<=k8;decide
theorem PQ{a p e:Y9}(X:pw s.heap a p e){Q:Pv}(I:Q (.int p s.toks) {s with toks:=s.toks+1}):Yi (Zs prog w) A (Zm (.builtin "re.Match.start") [.ref a]) Q E s:=by refine bC λF=>?_;obtain⟨o,ot,vs,items,J,L,t,u,h1,h2,_⟩:=X.b;refine F<|iH IP ⟨o,h1,h2⟩ (iG<|by kernel_rfl:entryFor table "re.Match.start"=Y6 Builtin.«re.Match.start») ?_<|(by unfold argsOk;refine ?_;kernel_rfl);exact PN X ⟨_,Y7,I⟩
theorem PR{a p e:Y9}(X:pw s.heap a p e){Q:Pv}(I:Q (.ref s.heap.objs.size) {s with heap:=s.heap.push {cls:=.type "tuple",data:=.seq #[.int p s.toks,.int e<|s.toks+1]},toks:=s.toks+1+1}):Yi (Zs prog w) A (Zm (.builtin "re.Match.span") [.ref a]) Q E s:=by refine bC λF=>?_;obtain⟨o,ot,vs,items,J,L,t,u,h1,h2,_⟩:=X.b;refine F<|iH IQ ⟨o,h1,h2⟩ (iG<|by kernel_rfl:entryFor table "re.Match.span"=Y6 Builtin.«re.Match.span») ?_<|(by unfold argsOk;refine ?_;kernel_rfl);exact PP X ⟨_,Y7,I⟩
end
end Mine.Lake.Re
namespace Mine.Lake
open PySem PySem.W PyProof.Rows
inductive X where|none|C(b:Yj)|k(i:Yh)|h(s:Yg)|v(x:Yg)|F(x:Yg)|g(x:Yg)|t(op:Operator)(a b:X)|B(a:X)|J(a:X)|j(op:CmpOp)(a b:X)|E(a b:X)|H(a b:X)|K(c a b:X)|q(a i:X)|z(a lo hi:X)|A(o:X)(f:Yg)|r(es:X)|D(es:X)|l|d(a b:X)|n(f as:X)|m(o:X)(m:Yg)(as:X)|u(elt:X)(x:Yg)(it cond:X)|L(ps:Yb Yg)(b:X)|G(x:Yg)(e:X)|I(es:X)|w(elt:X)(x y:Yg)(it:X)
instance:Coe YA X:=⟨λs=>.v s⟩
abbrev jm(a:X):X:=.d a .l
abbrev jn(a:X):X:=.n (.g "len")<|.d a .l
abbrev jp(a:Yg):X:=.A "self" a
abbrev jq(a:X)(n:Yh):X:=.t .Add a<|.k n
inductive S where|u|j(e:X)|a(x:Yg)(e:X)|z(x:Yg)(e:X)|v(x:Yg)(e:X)|l(o:X)(f:Yg)(e:X)|m(e:X)|h(c:X)(a b:S)|loop(n:Y9)(c:X)(b o:S)|p(x:Yg)(it:X)(b:S)|i(e:X)|g|d(a b:S)|q(x y:Yg)(e:X)|k|B|s(x y:Yg)(e:X)|w(o:X)(f x:Yg)(e:X)|A(x:Yg)(e:X)|r(o:X)(f:Yg)(o':X)(f':Yg)(e:X)|t(x:Yg)|C(x tn:Yg)(ps:Yb<|Str×Yg)(b:S)
def zD(x:Yg):Yj:=x !=("__debug__":Yg)&&x !=("__classdict__":Yg)
def jZ(e:YJ):Prop:=∀(attr:Yg)(env:Zk)(whole:s_ n4),ZK e attr env whole=whole
def D0(e:YJ):Yj:=match e with|.Slice ..=>Ye|_=>Yc
set_option backward.match.sparseCases true in def BN(e:Expr):Bool:=match e with|.Starred ..=>true|_=>false
def kC(e:YJ):Yj:=match e with|.Set ..=>Ye|_=>Yc
def Fy(a b:YJ):Yj:=!BN a&&!BN b&&!(foldedForSure 8 a&&foldedForSure 8 b)&&!(constantsAlone 8 a&&constantsAlone 8 b)
def FA(e:YJ):Yj:=match e with|.ListComp ..|.SetComp ..|.DictComp ..=>Ye|_=>Yc
inductive Ph where|e(x:YJ)|none|es(l:Yb YJ)|b(l:Yb YJ)|c(l:Yb YJ)|cond(l:Yb YJ)
def Ph.J:Yd YJ->Ph|some y=>.e y|Option.none=>.none
def Ph.F:Yb YJ->Ph|[y]=>.e y|l=>.b l
def Ph.I:Yb YJ->Ph|[y]=>.e y|l=>.c l
def Ph.u:Yb YJ->Ph|[y]=>.e y|l=>.cond l
def kH(x:Yg)(sc cs:Yt):Yj:=cs.kind==.function&&cs.names.lookup x==Y6 .local&&cs.names.all λp=>p.2 !=.cell&&(p.2 !=.local||cs.names.lookup p.1==Y6 .local)&&(p.2 !=.free||sc.names.lookup p.1==Y6 .cell||sc.names.lookup p.1==Y6 .free)
def uU(x y:Yg)(sc cs:Yt):Yj:=kH x sc cs&&cs.names.lookup y==Y6 .local&&x !=y
def og:Yb Yg->Yj:=lr Ye λx l r=>l.all (λy=>y !=x)&&r
theorem uD{x:Yg}{l:Yb Yg}:og (x::l)=(l.all (λy=>y !=x)&&og l):=Y7
def keyed(names:Yb<|Str×dJ):Yj:=lr Ye (λx l r=>l.all (λp=>p.1 !=x.1)&&r) names
theorem IR{p:Yg×dJ}{l:Yb<|Str×dJ}:keyed (p::l)=(l.all (λq=>q.1 !=p.1)&&keyed l):=Y7
structure xi(a:Arguments)(ps:Yb Yg):Prop where c:∀env,defaultsOf a env=([],[])b:∀fd:Zx,fd.params=a->fd.defaults=.none->∀cargs:Lv,cargs.length=ps.length->U_ fd ⟨cargs,[]⟩=Zg (ps.zip cargs)
theorem PS{an:Yd YJ}{p:ZR}:xi ⟨[],[⟨"place",an,p⟩],Y8,[],[],Y8,[]⟩ ["place"]:=⟨λq=>Y7,λF h1 h2 cargs u=>by obtain⟨c,rfl⟩:=List.length_eq_one_iff.mp u;cases F;simp only at h1 h2;subst h1 h2;rfl⟩
def wJ(ps:Yb Yg)(ls:Yt):Yj:=ls.kind==.function&&!ls.isCoroutine&&!ls.isGenerator&&keyed ls.names&&og ps&&ps.all (λx=>ls.names.lookup x==Y6 .local)&&ls.names.all λp=>p.2 !=.cell
def hJ(ps:Yb Yg)(sc ls:Yt):Yj:=wJ ps ls&&ls.names.all λp=>p.2 !=.free||sc.names.lookup p.1==Y6 .cell||sc.names.lookup p.1==Y6 .free
class inductive Ok:X->Yt->Ph->Prop|none{sc k p}:Ok .none sc<|.e<|.Constant .none k p|u{sc}:Ok .none sc .none|A{sc b k p}:Ok (.C b) sc<|.e<|.Constant (.bool b) k p|Y{sc}:Ok (.C Ye) sc<|.cond []|H{sc i k p}:Ok (.k i) sc<|.e<|.Constant (.int i) k p|T{sc k p}{s:Yg}:(Yk (s.length<=k8)&&fH s)=Ye->Ok (.h s) sc (.e<|.Constant (.str s) k p)|v{sc x p}:(zD x&&sc.names.lookup x==Y6 .local)=Ye->Ok (.v x) sc (.e<|.Name x p)|V{sc x p}:(zD x&&(sc.names.lookup x==Y6 .cell||sc.names.lookup x==Y6 .free))=Ye->Ok (.F x) sc (.e<|.Name x p)|g{sc x p}:(zD x&&sc.names.lookup x==Y6 .globalImplicit)=Ye->Ok (.g x) sc (.e<|.Name x p)|K{sc op a b l r p}:Ok a sc (.e l)->Ok b sc (.e r)->Ok (.t op a b) sc (.e<|.BinOp l op r p)|I{sc a e p}:Ok a sc (.e e)->Ok (.B a) sc (.e<|.UnaryOp .USub e p)|Q{sc a e p}:Ok a sc (.e e)->Ok (.J a) sc (.e<|.UnaryOp .Not e p)|L{sc op a b l r p}:Ok a sc (.e l)->Ok b sc (.e r)->behindInMarks op r=Yc->Ok (.j op a b) sc (.e<|.Compare l [op] [r] p)|J{sc a b e es p}:Ok a sc (.e e)->Ok b sc (.F es)->Ok (.E a b) sc (.e<|.BoolOp .And (e::es) p)|w{sc a b e es}:Ok a sc (.e e)->Ok b sc (.F es)->Ok (.E a b) sc (.b<|e::es)|W{sc a b e es p}:Ok a sc (.e e)->Ok b sc (.I es)->Ok (.H a b) sc (.e<|.BoolOp .Or (e::es) p)|R{sc a b e es}:Ok a sc (.e e)->Ok b sc (.I es)->Ok (.H a b) sc (.c<|e::es)|N{sc c a b t x y p}:Ok c sc (.e t)->Ok a sc (.e x)->Ok b sc (.e y)->Ok (.K c a b) sc (.e<|.IfExp t x y p)|M{sc a i v sl p}:Ok a sc (.e v)->Ok i sc (.e sl)->D0 sl=Yc->Ok (.q a i) sc (.e<|.Subscript v sl p)|S{sc a lo hi v l h p q}:Ok a sc (.e v)->Ok lo sc (.J l)->Ok hi sc (.J h)->Ok (.z a lo hi) sc (.e<|.Subscript v (.Slice l h Y8 q) p)|z{sc o f e p}:Ok o sc (.e e)->jZ e->Ok (.A o f) sc (.e<|.Attribute e f p)|E{sc es l p}:Ok es sc (.es l)->Ok (.r es) sc (.e<|.List l p)|U{sc es l k p}:Ok es sc (.es l)->Ok (.D es) sc (.e<|.Tuple l k p)|P{sc}:Ok .l sc<|.es []|D{sc a b e r}:Ok a sc (.e e)->Ok b sc (.es r)->BN e=Yc->Ok (.d a b) sc (.es<|e::r)|B{sc f as n p l q}:Ok f sc (.e<|.Name n p)->Ok as sc (.es l)->Ok (.n f as) sc (.e<|.Call (.Name n p) l [] q)|m{sc o m as e ap l q}:Ok o sc (.e e)->Ok as sc (.es l)->jZ e->(Yk (l.length<30)&&ap.endLine==q.line)=Ye->Ok (.m o m as) sc (.e<|.Call (.Attribute e m ap) l [] q)|C{sc elt x it cond e yp i ifs cs p}:Ok it sc (.e i)->Ok elt cs (.e e)->Ok cond cs (.u ifs)->kH x sc cs=Ye->kC i=Yc->Ok (.u elt x it cond) sc (.e<|.ListComp e [⟨.Name x yp,i,ifs,0⟩] cs p)|O{sc ps b a body ls p}:xi a ps->Ok b ls (.e body)->hJ ps sc ls=Ye->Ok (.L ps b) sc (.e<|.Lambda a body ls p)|j{sc x e v q p}:sc.names.lookup x=Y6 .local->Ok e sc (.e v)->Ok (.G x e) sc (.e<|.NamedExpr (.Name x q) v p)|F{sc es l p}:Ok es sc (.es l)->Ok (.I es) sc (.e<|.List l p)|d{sc elt x y it e xp yp tp k i cs p}:Ok it sc (.e i)->Ok elt cs (.e e)->uU x y sc cs=Ye->kC i=Yc->Ok (.w elt x y it) sc (.e<|.ListComp e [⟨.Tuple [.Name x xp,.Name y yp] k tp,i,[],0⟩] cs p)
def D1(a b:Yg):Yj:=(gC ⟨#[]⟩ a 0 0 1).isEmpty&&! a==b
class inductive tu  (x:Yg):Yb (Yg×Yg)->Yb YW->Yb YW->Prop|d{r}:tu x [] r r|c{a b ps q q2 ap p1 p2 r p k1 k2 l l'}:(D1 a b&&Yk (a.length<=k8)&&Yk (b.length<=k8)&&ap.endLine==r.line)=Ye->tu x ps l l'->tu x ((a,b)::ps) (.Assign [.Name x q] (.Call (.Attribute (.Name x q2) "replace" ap) [.Constant (.str a) k1 p1,.Constant (.str b) k2 p2] [] r) p::l) l'
inductive Pt where|s(x:YW)|l(x:Yb YW)
structure kk(P:Prop)where
 b:Yj
 h:b=Ye->P
variable{P Q:Prop}
def kk.J:kk P:=⟨Yc,λh=>pz h⟩
def kk.L(b:Yj):kk<|b=Ye:=⟨b,id⟩
def kk.I(p:Prop)[Zf p]:kk p:=⟨Yk p,k9⟩
def kk.then(c:kk P)(f:P->kk Q):kk Q:=if h:c.b then f (c.h h)else .J
def kk.F(c:kk P)(f:P->Q):kk Q:=⟨c.b,λh=>f<|c.h h⟩
def kk.N(c d:kk P):kk P:=if c.b then c else d
def q6{P:YJ->Prop}(k:Y9)(f:∀e,e.ctorIdx=k->kk (P e))(e:YJ):kk<|P e:=if h:e.ctorIdx=k then f e h else .J
def tK{P:Ph->Prop}(f:∀e,kk<|P<|.e e)(p:Ph):kk<|P p:=p.rec f .J (λq=>.J) (λq=>.J) (λq=>.J) λq=>.J
def IS{P:Ph->Prop}(f:∀e,kk<|P<|.es e)(p:Ph):kk<|P p:=p.rec (λq=>.J) .J f (λq=>.J) (λq=>.J) λq=>.J
def jC{α:Type}{P:Yb α->Prop}(f:kk<|P [])(l:Yb α):kk<|P l:=l.rec f λq q q=>.J
def vE{α:Type}{P:Yb α->Prop}(f:∀a l,kk<|P<|a::l)(l:Yb α):kk<|P l:=l.rec .J λa l q=>f a l
def wG{α:Type}{P:Yb α->Prop}(f:∀a,kk<|P [a]):∀l:Yb α,kk<|P l:=vE λa=>jC<|f a
def BO{α:Type}{P:Yb α->Prop}(f:∀a b,kk<|P [a,b]):∀l:Yb α,kk<|P l:=vE λa=>wG<|f a
def Ba{α:Type}{P:Yd α->Prop}(f:kk<|P Y8)(g:∀a,kk<|P<|some a)(o:Yd α):kk<|P o:=o.rec f g
def zT{P:YJ->Prop}(x:Yg)(f:∀p,kk<|P<|.Name x p):∀e,kk<|P e:=q6 23 λe h=>ZG e h λy p=>(kk.I<|y=x).then λh=>h▸f p
def IT(e:YJ):kk<|jZ e:=((q6 23 λe h=>ZG e h λz z=>⟨Ye,λz z z z=>Y7⟩:∀e,kk<|jZ e) e).N<|((q6 20 λe h=>Zi e h λz z z=>⟨Ye,λz z z z=>Y7⟩:∀e,kk<|jZ e) e).N<|((q6 21 λe h=>Zh e h λz z z=>⟨Ye,λz z z z=>Y7⟩:∀e,kk<|jZ e) e).N<|((q6 19 λe h=>Zn e h λz z z=>⟨Ye,λz z z z=>Y7⟩:∀e,kk<|jZ e) e).N<|(q6 16 λe h=>Zr e h λf as u p=>(q6 23 λf h=>ZG f h λx q=>(vE λz z=>⟨Ye,λz z z z=>Y7⟩:∀as,kk<|jZ<|.Call (.Name x q) as u p) as:∀f,kk<|jZ<|.Call f as u p) f:∀e,kk<|jZ e) e
def PT(a:Arguments)(ps:Yb Yg):kk<|xi a ps:=(kk.I<|ps=([("place":Yg)]:Yb Yg)).then λhp=>hp▸a.casesOn λpo as J I F kw u=>(jC<|(wG λg=>g.casesOn λx an p=>(kk.I<|x="place").then λL=>(Ba ((jC<|(jC<|(Ba ((jC ⟨Ye,λq=>L▸PS⟩:∀u,kk<|xi ⟨[],[⟨x,an,p⟩],Y8,[],[],Y8,u⟩ ["place"]) u)<|λq=>.J:∀kw,kk<|xi ⟨[],[⟨x,an,p⟩],Y8,[],[],kw,u⟩ ["place"]) kw:∀F,kk<|xi ⟨[],[⟨x,an,p⟩],Y8,[],F,kw,u⟩ ["place"]) F:∀I,kk<|xi ⟨[],[⟨x,an,p⟩],Y8,I,F,kw,u⟩ ["place"]) I)<|λq=>.J:∀J,kk<|xi ⟨[],[⟨x,an,p⟩],J,I,F,kw,u⟩ ["place"]) J:∀as,kk<|xi ⟨[],as,J,I,F,kw,u⟩ ["place"]) as:∀po,kk<|xi ⟨po,as,J,I,F,kw,u⟩ ["place"]) po
noncomputable abbrev CX(a:X):Type:=∀(sc:Yt)(u:Ph),kk<|Ok a sc u
def D2{a:X}{sc:Yt}(c:Const)(f:∀k p,Ok a sc<|.e<|.Constant c k p):∀u,kk<|Ok a sc u:=tK<|q6 19 λe h=>Zn e h λc' k p=>(kk.I<|c'=c).F λh=>h▸f k p
def te(a:X):CX a:=X.rec (motive:=CX)
 (λsc L=>L.rec (λe=>D2 (a:=.none) .none (λz z=>.none)<|.e e) ⟨Ye,λz=>.u⟩ (λz=>.J) (λz=>.J) (λz=>.J) λz=>.J)
 (λb sc L=>L.rec (λe=>D2 (a:=.C b) (.bool b) (λz z=>.A)<|.e e) .J (λz=>.J) (λz=>.J) (λz=>.J)<|jC<|(kk.I<|b=Ye).F λh=>h▸.Y)
 (λi sc=>D2 (.int i) λz z=>.H)
 (λs sc L=>(kk.L<|decide (s.length<=k8)&&fH s).then λh=>D2 (.str s) (λz z=>.T h) L)
 (λx sc L=>(kk.L<|zD x&&sc.names.lookup x==Y6 .local).then λh=>tK (zT x λz=>⟨Ye,λz=>.v h⟩) L)
 (λx sc L=>(kk.L<|zD x&&(sc.names.lookup x==Y6 .cell||sc.names.lookup x==Y6 .free)).then λh=>tK (zT x λz=>⟨Ye,λz=>.V h⟩) L)
 (λx sc L=>(kk.L<|zD x&&sc.names.lookup x==Y6 .globalImplicit).then λh=>tK (zT x λz=>⟨Ye,λz=>.g h⟩) L)
 (λop a b I N sc=>tK<|q6 2 λe h=>Expr.BinOp.elim e h λl o r p=>(kk.I<|o=op).then λh=>(I sc<|.e l).then λF=>(N sc<|.e r).F λJ=>h▸.K F J)
 (λa I sc=>tK<|q6 3 λe h=>ZO e h λo r p=>(kk.I<|o=.USub).then λh=>(I sc<|.e r).F λF=>h▸.I F)
 (λa I sc=>tK<|q6 3 λe h=>ZO e h λo r p=>(kk.I<|o=.Not).then λh=>(I sc<|.e r).F λF=>h▸.Q F)
 (λop a b I N sc=>tK<|q6 15 λe h=>Expr.Compare.elim e h λl os rs p=>(wG λr=>(kk.I<|os=[op]).then λh=>(I sc<|.e l).then λF=>(N sc<|.e r).then λJ=>(kk.I<|behindInMarks op r=Yc).F λhm=>h▸.L F J hm:∀rs,kk<|Ok (.j op a b) sc<|.e<|.Compare l os rs p) rs)
 (λa b I N sc L=>L.rec (q6 0 λe h=>N_ e h λo es p=>(kk.I<|o=.And).then λh=>(vE λe l=>(I sc<|.e e).then λF=>(N sc<|.F l).F λJ=>h▸.J F J:∀es,kk<|Ok (.E a b) sc<|.e<|.BoolOp o es p) es) .J (λz=>.J) (vE λe l=>(I sc<|.e e).then λF=>(N sc<|.F l).F λJ=>.w F J) (λz=>.J) λz=>.J)
 (λa b I N sc L=>L.rec (q6 0 λe h=>N_ e h λo es p=>(kk.I<|o=.Or).then λh=>(vE λe l=>(I sc<|.e e).then λF=>(N sc<|.I l).F λJ=>h▸.W F J:∀es,kk<|Ok (.H a b) sc<|.e<|.BoolOp o es p) es) .J (λz=>.J) (λz=>.J) (vE λe l=>(I sc<|.e e).then λF=>(N sc<|.I l).F λJ=>.R F J) λz=>.J)
 (λc a b ic I N sc=>tK<|q6 5 λe h=>Expr.IfExp.elim e h λt x y p=>(ic sc<|.e t).then λhc=>(I sc<|.e x).then λF=>(N sc<|.e y).F λJ=>.N hc F J)
 (λa i I V sc=>tK<|q6 21 λe h=>Zh e h λv l p=>(I sc<|.e v).then λF=>(V sc<|.e l).then λhi=>(kk.I<|D0 l=Yc).F λhs=>.M F hi hs)
 (λa lo hi I il ih sc=>tK<|q6 21 λe h=>Zh e h λv s p=>(q6 26 λs h=>Expr.Slice.elim s h λl u t q=>(Ba ((I sc<|.e v).then λF=>(il sc<|.J l).then λhl=>(ih sc<|.J u).F λhh=>.S F hl hh) λz=>.J:∀t,kk<|Ok (.z a lo hi) sc<|.e<|.Subscript v (.Slice l u t q) p) t:∀s,kk<|Ok (.z a lo hi) sc<|.e<|.Subscript v s p) s)
 (λo f io sc=>tK<|q6 20 λe h=>Zi e h λv g p=>(kk.I<|g=f).then λh=>(io sc<|.e v).then λU=>(IT v).F λhn=>h▸.z U hn)
 (λes O sc=>tK<|q6 24 λe h=>ZI e h λl p=>(O sc<|.es l).F .E)
 (λes O sc=>tK<|q6 25 λe h=>ZB e h λl k p=>(O sc<|.es l).F .U)
 (λsc=>IS<|jC ⟨Ye,λz=>.P⟩)
 (λa b I N sc=>IS<|vE λe r=>(I sc<|.e e).then λF=>(N sc<|.es r).then λJ=>(kk.I<|BN e=Yc).F λhs=>.D F J hs)
 (λf as jf ja sc=>tK<|q6 16 λe h=>Zr e h λg l S q=>(q6 23 λg h=>ZG g h λn p=>(jC<|(jf sc<|.e<|.Name n p).then λhf=>(ja sc<|.es l).F λF=>.B hf F:∀S,kk<|Ok (.n f as) sc<|.e<|.Call (.Name n p) l S q) S:∀g,kk<|Ok (.n f as) sc<|.e<|.Call g l S q) g)
 (λo m as io ja sc=>tK<|q6 16 λe h=>Zr e h λg l S q=>(q6 20 λg h=>Zi g h λe m' ap=>(jC<|(kk.I<|m'=m).then λhm=>(io sc<|.e e).then λU=>(ja sc<|.es l).then λF=>(IT e).then λhn=>(kk.L<|decide (l.length<30)&&ap.endLine==q.line).F λhl=>hm▸.m U F hn hl:∀S,kk<|Ok (.m o m as) sc<|.e<|.Call (.Attribute e m' ap) l S q) S:∀g,kk<|Ok (.m o m as) sc<|.e<|.Call g l S q) g)
 (λelt x it cond O V ic sc=>tK<|q6 8 λe h=>ZH e h λv T cs p=>(wG λg=>g.casesOn λt i ifs a=>(zT x λyp=>(kk.I<|a=0).then λh0=>(V sc<|.e i).then λhi=>(O cs<|.e v).then λY=>(ic cs<|.u ifs).then λhc=>(kk.I<|kH x sc cs=Ye).then λhs=>(kk.I<|kC i=Yc).F λhz=>h0▸.C hi Y hc hs hz:∀t,kk<|Ok (.u elt x it cond) sc<|.e<|.ListComp v [⟨t,i,ifs,a⟩] cs p) t:∀T,kk<|Ok (.u elt x it cond) sc<|.e<|.ListComp v T cs p) T)
 (λps b N sc=>tK<|q6 4 λe h=>Expr.Lambda.elim e h λa v ls p=>(PT a ps).then λU=>(N ls<|.e v).then λJ=>(kk.I<|hJ ps sc ls=Ye).F λhs=>.O U J hs)
 (λx e O sc=>tK<|q6 1 λe h=>Expr.NamedExpr.elim e h λt v p=>(zT x λq=>(kk.I<|sc.names.lookup x=Y6 .local).then λhx=>(O sc<|.e v).F λY=>.j hx Y:∀t,kk<|Ok (.G x _) sc<|.e<|.NamedExpr t v p) t)
 (λes O sc=>tK<|q6 24 λe h=>ZI e h λl p=>(O sc<|.es l).F .F)
 (λelt x y it O V sc=>tK<|q6 8 λe h=>ZH e h λv T cs p=>(wG λg=>g.casesOn λt i ifs a=>(q6 25 λt h=>ZB t h λts k tp=>(BO λt1 Z=>(zT x λp1=>(zT y λp2=>(jC<|(kk.I<|a=0).then λh0=>(V sc<|.e i).then λhi=>(O cs<|.e v).then λY=>(kk.I<|uU x y sc cs=Ye).then λhs=>(kk.I<|kC i=Yc).F λhz=>h0▸.d hi Y hs hz:∀ifs,kk<|Ok (.w elt x y it) sc<|.e<|.ListComp v [⟨.Tuple [.Name x p1,.Name y p2] k tp,i,ifs,a⟩] cs p) ifs:∀Z,kk<|Ok (.w elt x y it) sc<|.e<|.ListComp v [⟨.Tuple [.Name x p1,Z] k tp,i,ifs,a⟩] cs p) Z:∀t1,kk<|Ok (.w elt x y it) sc<|.e<|.ListComp v [⟨.Tuple [t1,Z] k tp,i,ifs,a⟩] cs p) t1:∀ts,kk<|Ok (.w elt x y it) sc<|.e<|.ListComp v [⟨.Tuple ts k tp,i,ifs,a⟩] cs p) ts:∀t,kk<|Ok (.w elt x y it) sc<|.e<|.ListComp v [⟨t,i,ifs,a⟩] cs p) t:∀T,kk<|Ok (.w elt x y it) sc<|.e<|.ListComp v T cs p) T)
 a
inductive V where|none|j(b:Yj)|d(i:Yh)|f(s:Yg)|h(xs:Yb V)|n(xs:Yb V)|g(k:Y9)|q(a b c:Yh)|t(p e:Y9)|o(k:Y9)|r(ps:Yb Yg)(x:X)(cs:Yb<|Str×Y9)|m(v:n4)
set_option genCtorIdx true in inductive O where|a(xs:List V)|c(C:Addr)(d:Nat)|dict(fs:List<|Str×V)|cell(v:Option V)|d(q:Str)
structure Wd where
 c:Y9->Y9
 fz:Y9->Yd Yr
def kN(a:YF):Yr:={cls:=.type "builtin_function_or_method",data:=.fields #[.builtin "list.append",.ref a]}
def ro(W:Wd)(cv:n4)(q:Yg):Prop:=∃c oc vs t,cv=.ref c/\W.fz c=Y6 oc/\oc.data=.fields vs/\vs[1]?=Y6 (.str q t)
structure uh(W:Wd)(n:Y9)(ps:Yb Yg)(x:X)(cs:Yb<|Str×Y9)(fd:Zx):Prop where
 d:∃e,fd.body=.expr e/\Ok x fd.scope (.e e)b:wJ ps fd.scope=Ye
 code:ro W fd.code fd.qualname
 g:fd.globals=dY
 i:fd.builtins=fL
 c:∀cargs:Lv,cargs.length=ps.length->U_ fd ⟨cargs,[]⟩=Zg (ps.zip cargs)f:∀y,fd.scope.names.lookup y=Y6 .free->∃a,fd.closure.lookup y=Y6 a
 e:∀y k,cs.lookup y=Y6 k->k<n/\(fd.scope.names.lookup y=Y6 .free->fd.closure.lookup y=Y6 (W.c k))
def VR.jw(W:Wd)(n:Y9)(r:Yb V->Lv->Prop)(c:n4):V->Prop|.none=>c=.none|.j b=>c=.bool b|.d i=>∃t,c=.int i t|.f x=>∃t,c=.str x t/\x.length<=k8/\fH x=Ye|.h xs=>∃a o items e,c=.ref a/\W.fz a=Y6 o/\o.cls=.type "list"/\o.data=.seq items e/\items.size<=k8/\r xs items.toList/\o.dict=Y8|.n xs=>∃a o items e,c=.ref a/\W.fz a=Y6 o/\o.cls=.type "tuple"/\o.data=.seq items e/\items.size<=k8/\r xs items.toList|.g k=>c=.ref (W.c k)/\k<n|.q x y z=>∃b t u v,c=.ref b/\W.fz b=Y6 {cls:=.type "range",dict:=Y8,data:=.fields #[.int x t,.int y u,.int z v],slots:=#[]}/\Yy x y z=Ye|.t p e=>∃a F o ot vs items J t u,c=.ref a/\W.fz a=Y6 o/\o.cls=.type "re.Match"/\o.data=.fields vs/\vs.getD 5 .none=.ref F/\W.fz F=Y6 ot/\ot.data=.seq items J/\items.toList=[.int p t,.int e u]/\o.dict=Y8|.o k=>∃b,c=.ref b/\k<n/\W.fz b=Y6 (kN<|W.c k)|.r ps x cs=>∃a o I,c=.ref a/\W.fz a=Y6 o/\o.data=.func I/\uh W n ps x cs I|.m v=>c=v
def VD(W:Wd)(n:Y9)(r:Lv->Prop)(v:V):(n4->Prop)×(Lv->Prop):=⟨λc=>VR.jw W n (λq=>r) c v,r⟩
def VX(W:Wd)(n:Y9):V->(n4->Prop)×(Lv->Prop):=let F v:=VD W n (λw=>False) v
 @V.rec (λw=>(n4->Prop)×(Lv->Prop)) (λw=>Lv->Prop) (F .none) (λb=>F<|.j b) (λi=>F<|.d i) (λx=>F<|.f x) (λxs r=>VD W n r<|.h xs) (λxs r=>VD W n r<|.n xs) (λk=>F<|.g k) (λx y z=>F<|.q x y z) (λp e=>F<|.t p e) (λk=>F<|.o k) (λps x cs=>F<|.r ps x cs) (λv=>F<|.m v) (λcs=>cs=[]) λw w r q cs=>∃c u,cs=c::u/\r.1 c/\q u
def VR(W:Wd)(n:Y9)(v:V)(c:n4):Prop:=(VX W n v).1 c
def ll(W:Wd)(n:Y9)(xs:Yb V)(cs:Lv):Prop:=(VX W n<|.n xs).2 cs
section
variable{W:Wd}{n:Y9}
theorem VR.none:VR W n .none .none:=Y7
theorem VR.jt(b:Yj):VR W n (.j b)<|.bool b:=Y7
theorem VR.cr(i:Yh)(t:b_):VR W n (.d i)<|.int i t:=⟨t,Y7⟩
theorem VR.d6(s:Yg)(t:b_)(h:s.length<=k8)(h2:fH s):VR W n (.f s)<|.str s t:=⟨t,Y7,h,h2⟩
theorem VR.ee{a:YF}{o:Yr}{items:Yp n4}{e:Y9}{xs:Yb V}(h1:W.fz a=Y6 o)(h2:o.cls=.type "list")(h3:o.data=.seq items e)(h4:items.size<=k8)(h5:ll W n xs items.toList)(u:o.dict=Y8):VR W n (.h xs)<|.ref a:=⟨a,o,items,e,Y7,h1,h2,h3,h4,h5,u⟩
theorem VR.jv{a:YF}{o:Yr}{items:Yp n4}{e:Y9}{xs:Yb V}(h1:W.fz a=Y6 o)(h2:o.cls=.type "tuple")(h3:o.data=.seq items e)(h4:items.size<=k8)(h5:ll W n xs items.toList):VR W n (.n xs)<|.ref a:=⟨a,o,items,e,Y7,h1,h2,h3,h4,h5⟩
theorem VR.ju{k:Y9}(h:k<n):VR W n (.g k)<|.ref<|W.c k:=⟨Y7,h⟩
theorem VR.jx{r:Y9}{a b c:Yh}{t u v:b_}(h1:W.fz r=Y6 {cls:=.type "range",dict:=Y8,data:=.fields #[.int a t,.int b u,.int c v],slots:=#[]})(h2:Yy a b c):VR W n (.q a b c)<|.ref r:=⟨r,t,u,v,Y7,h1,h2⟩
theorem VR.mt{a F:Y9}{o ot:Yr}{vs:Yp n4}{items:Yp n4}{I:Y9}{p e:Y9}{t u:b_}(h1:W.fz a=Y6 o)(h2:o.cls=.type "re.Match")(h3:o.data=.fields vs)(h4:vs.getD 5 .none=.ref F)(h5:W.fz F=Y6 ot)(N:ot.data=.seq items I)(L:items.toList=[.int p t,.int e u])(J:o.dict=Y8):VR W n (.t p e)<|.ref a:=⟨a,F,o,ot,vs,items,I,t,u,Y7,h1,h2,h3,h4,h5,N,L,J⟩
theorem VR.jy{b k:Y9}(h1:k<n)(h2:W.fz b=Y6 (kN<|W.c k)):VR W n (.o k)<|.ref b:=⟨b,Y7,h1,h2⟩
theorem VR.jz{a:Y9}{o:Yr}{u:Zx}{ps:Yb Yg}{x:X}{cs:Yb<|Str×Y9}(h1:W.fz a=Y6 o)(h2:o.data=.func u)(h3:uh W n ps x cs u):VR W n (.r ps x cs)<|.ref a:=⟨a,o,u,Y7,h1,h2,h3⟩
theorem VR.jr(v:n4):VR W n (.m v) v:=Y7
theorem ll.U:ll W n [] []:=Y7
theorem ll.S{x:V}{c:n4}{xs:Yb V}{cs:Lv}(a:VR W n x c)(b:ll W n xs cs):ll W n (x::xs)<|c::cs:=⟨c,cs,Y7,a,b⟩
end
theorem VR.Z{W:Wd}{n:Y9}{v:V}{c:n4}(h:VR W n v c):VR.jw W n (ll W n) c v:=by cases v<;>exact h
structure tI(n:Y9)(W W':Wd):Prop where
 d:∀k,k<n->W'.c k=W.c k
 fz:∀a c,W.fz a=Y6 c->W'.fz a=Y6 c
theorem tI.I(n:Y9)(W:Wd):tI n W W:=⟨λq q=>Y7,λq q e=>e⟩
theorem tI.J{n u:Y9}{W W' W'':Wd}(a:tI n W W')(F:n<=u)(b:tI u W' W''):tI n W W'':=⟨λk hk=>(b.d k<|i9 hk F).trans<|a.d k hk,λx c e=>b.fz x c<|a.fz x c e⟩
theorem ro.mono{W W':Wd}{n:Y9}{cv:n4}{q:Yg}(l:tI n W W')(h:ro W cv q):ro W' cv q:=dq h λc oc vs t h1 h2 h3 h4=>⟨c,oc,vs,t,h1,l.fz _ _ h2,h3,h4⟩
theorem uh.mono{W W':Wd}{n u:Y9}(l:tI n W W')(I:n<=u){ps:Yb Yg}{x:X}{cs:Yb<|Str×Y9}{F:Zx}(h:uh W n ps x cs F):uh W' u ps x cs F:=⟨h.d,h.b,h.code.mono l,h.g,h.i,h.c,h.f,λy k hk=>⟨i9 (h.e y k hk).1 I,λJ=>by rw[l.d k (h.e y k hk).1];exact(h.e y k hk).2 J⟩⟩
theorem VR.U{W:Wd}{n:Y9}{i:Yh}{c:n4}(h:VR W n (.d i) c):∃t,c=.int i t:=h
theorem VR.T{W:Wd}{n:Y9}{x:Yg}{c:n4}(h:VR W n (.f x) c):∃t,c=.str x t/\x.length<=k8/\fH x:=h
theorem VR.cB{W:Wd}{n k:Y9}{c:n4}(h:VR W n (.g k) c):c=.ref (W.c k)/\k<n:=h
theorem VR.ds{W:Wd}{n:Y9}{v c:n4}(h:VR W n (.m v) c):c=v:=h
theorem ll.T{W:Wd}{n:Y9}{cs:Lv}(h:ll W n [] cs):cs=[]:=h
theorem ll.O{W:Wd}{n:Y9}{x:V}{xs:Yb V}{cs:Lv}(h:ll W n (x::xs) cs):∃c u,cs=c::u/\VR W n x c/\ll W n xs u:=h
theorem ll.cB{W:Wd}{n:Y9}{x:V}{cs:Lv}(h:ll W n [x] cs):∃c,cs=[c]/\VR W n x c:=by refine bp h.O λc F u a b=>?_;subst u;obtain rfl:=b.T;exact⟨c,Y7,a⟩
theorem ll.Z{W:Wd}{n:Y9}{x y:V}{cs:Lv}(h:ll W n [x,y] cs):∃c d,cs=[c,d]/\VR W n x c/\VR W n y d:=by refine bp h.O λc F u a b=>?_;subst u;refine am b.cB λd u b'=>?_;subst u;exact⟨c,d,Y7,a,b'⟩
theorem VR.mono{W W':Wd}{n J:Y9}(l:tI n W W')(L:n<=J){v:V}{c:n4}(h:VR W n v c):VR W' J v c:=V.rec (motive_1:=λv=>∀c,VR W n v c->VR W' J v c) (motive_2:=λxs=>∀cs,ll W n xs cs->ll W' J xs cs) (λz h=>h) (λz z h=>h) (λz z h=>h) (λz z h=>h)
  (λz r z h=>ed h.Z λa o i e h1 h2 h3 h4 h5 I F=>h1▸.ee (l.fz _ _ h2) h3 h4 h5 (r _ I) F) (λz r z h=>dh h.Z λa o i e h1 h2 h3 h4 h5 I=>h1▸.jv (l.fz _ _ h2) h3 h4 h5 (r _ I))
  (λk z h=>⟨h.Z.1.trans<|i6 Value.ref (l.d k h.Z.2).symm,i9 h.Z.2 L⟩) (λz z z z h=>fy h.Z λr t u v h1 h2 h3=>h1▸.jx (l.fz _ _ h2) h3)
  λz z z h=>by obtain⟨a,O,o,ot,vs,i,e,t,u,rfl,h2,h3,h4,h5,I,F⟩:=h.Z;exact .mt (l.fz _ _ h2) h3 h4 h5 (l.fz _ _ I) F.1 F.2.1 F.2.2
  (λk z h=>bo h.Z λb h1 h2 h3=>h1▸.jy (i9 h2 L) ((l.fz _ _ h3).trans<|i6 (λa=>Y6<|kN a) (l.d k h2).symm)) (λz z z z h=>cj h.Z λa o S h1 h2 h3 h4=>h1▸.jz (l.fz _ _ h2) h3 (h4.mono l L)) (λz z h=>h)
  (λz h=>h) (λz z r q z h=>bp (ll.O h) λc N h1 h2 h3=>h1▸.S (r _ h2) (q _ h3)) v c h
theorem ll.ind{W:Wd}{n:Y9}{C:Yb V->Lv->Prop}(h1:C [] [])(h2:∀{x c xs cs},VR W n x c->ll W n xs cs->C xs cs->C (x::xs) (c::cs)){xs:Yb V}{cs:Lv}(h:ll W n xs cs):C xs cs:=by induction xs generalizing cs with|nil=>obtain rfl:=h.T;exact h1|cons x xs u=>obtain⟨c,F,rfl,a,b⟩:=h;exact h2 a b<|u b
theorem ll.mono{W W':Wd}{n u:Y9}(l:tI n W W')(F:n<=u){v:Yb V}{c:Lv}(h:ll W n v c):ll W' u v c:=h.ind .U λa q I=>.S (a.mono l F) I
theorem ll.N{W:Wd}{n:Y9}{xs:Yb V}{cs:Lv}(h:ll W n xs cs):cs.length=xs.length:=h.ind (C:=λxs cs=>cs.length=xs.length) Y7 λq q u=>i6 sA u
theorem ll.d6{W:Wd}{n:Y9}{xs:Yb V}{cs:Lv}(h:ll W n xs cs):∀{i:Y9}{x:V},xs[i]?=Y6 x->∃c,cs[i]?=Y6 c/\VR W n x c:=by refine h.ind (C:=λxs cs=>∀{i:Y9}{x:V},xs[i]?=Y6 x->∃c,cs[i]?=Y6 c/\VR W n x c) (λe=>lz e) ?_;intro _ _ _ _ a _ u i x e;cases i with|zero=>obtain rfl:=c0 e;exact⟨_,Y7,a⟩|succ i=>exact u (i:=i) e
theorem ll.X{W:Wd}{n:Y9}{xs ys:Yb V}{cs u:Lv}(h:ll W n xs cs)(b:ll W n ys u):ll W n (xs++ys)<|cs++u:=h.ind (C:=λxs cs=>ll W n (xs++ys)<|cs++u) b λa q F=>.S a F
theorem ll.ee{W:Wd}{n:Y9}{xs:Yb V}{cs:Lv}(i:Y9)(h:ll W n xs cs):ll W n (xs.drop i)<|cs.drop i:=by refine h.ind (C:=λxs cs=>∀i,ll W n (xs.drop i)<|cs.drop i) (λi=>by refine zJ5 List.drop_nil<|zJ5 List.drop_nil ?_;exact .U) ?_ i;intro _ _ _ _ a r u i;cases i with|zero=>exact .S a r|succ i=>exact u i
theorem ll.d7{W:Wd}{n:Y9}{xs:Yb V}{cs:Lv}(i:Y9)(h:ll W n xs cs):ll W n (xs.take i)<|cs.take i:=by refine h.ind (C:=λxs cs=>∀i,ll W n (xs.take i)<|cs.take i) (λi=>by refine zJ5 nN<|zJ5 nN ?_;exact .U) ?_ i;intro _ _ _ _ a r u i;cases i with|zero=>exact .U|succ i=>exact .S a<|u i
theorem ll.jr{W:Wd}{n:Y9}{xs:Yb V}{cs:Lv}(h:ll W n xs cs):ll W n xs.reverse cs.reverse:=h.ind (C:=λxs cs=>ll W n xs.reverse cs.reverse) .U λa q u=>by simp only[oZ,oZ];exact u.X<|.S a .U
def FR(W:Wd)(n:Y9)(fs:Yb<|Str×V)(es:Yb gM):Prop:=lr (λes=>es=[]) (λp q r es=>∃F t c u,es=⟨F,.str p.1 t,c⟩::u/\VR W n p.2 c/\r u) fs es
theorem FR.cr{W:Wd}{n:Y9}:FR W n [] []:=Y7
theorem FR.T{W:Wd}{n:Y9}{x:Yg}{v:V}{c:n4}{u:Yh}{t:b_}{fs:Yb<|Str×V}{es:Yb gM}(h:VR W n v c)(r:FR W n fs es):FR W n ((x,v)::fs)<|⟨u,.str x t,c⟩::es:=⟨u,t,c,es,Y7,h,r⟩
theorem FR.mono{W W':Wd}{n u:Y9}(l:tI n W W')(F:n<=u){v:Yb<|Str×V}{c:Yb gM}(h:FR W n v c):FR W' u v c:=by induction v generalizing c with|nil=>exact h|cons p r I=>obtain⟨s,t,c,es,rfl,a,b⟩:=h;exact⟨s,t,c,es,Y7,a.mono l F,I b⟩
def IU(W:Wd)(q:Yg)(ps:Yp n4):Prop:=TriplesOk ps.toList/\∀pos cv,codeAmong pos ps.toList=Y6 cv->ro W cv q
def OR(W:Wd)(n:Y9)(o:O)(c:Yr):Prop:=@O.rec (λz=>Prop) (λxs=>∃items e,c=Zu items e/\ll W n xs items.toList/\items.size<=k8) (λC d=>c=instObj C (W.c d)/\d<n)
 (λfs=>∃es e,c=dictOf es e/\FR W n fs es) (λv=>v.elim (c.data=.cell .none) λv=>∃d,c.data=.cell (Y6 d)/\VR W n v d) (λq=>∃ps,c=tabObj ps/\IU W q ps) o
section
variable{W:Wd}{n:Y9}
theorem OR.J{items:Yp n4}{e:Y9}{xs:Yb V}(h:ll W n xs items.toList)(z:items.size<=k8):OR W n (.a xs)<|listOf items e:=⟨_,_,Y7,h,z⟩
theorem OR.U{C:YF}{d:Y9}(h:d<n):OR W n (.c C d)<|instObj C<|W.c d:=⟨Y7,h⟩
theorem OR.dict{fs:Yb<|Str×V}{es:Yb gM}{e:Y9}(h:FR W n fs es):OR W n (.dict fs)<|dictOf es e:=⟨_,_,Y7,h⟩
theorem OR.cell{o:Yr}{v:V}{c:n4}(h:o.data=.cell (Y6 c))(r:VR W n v c):OR W n (.cell<|some v) o:=⟨_,h,r⟩
theorem OR.L{o:Yr}(h:o.data=.cell .none):OR W n (.cell .none) o:=h
theorem OR.X{q:Yg}{ps:Yp n4}(h:IU W q ps):OR W n (.d q)<|tabObj ps:=⟨_,Y7,h⟩
end
theorem OR.mono{W W':Wd}{n F:Y9}(l:tI n W W')(u:n<=F){o:O}{c:Yr}(h:OR W n o c):OR W' F o c:=by cases o with
 |a xs=>obtain⟨i,e,rfl,d,z⟩:=h;exact⟨i,e,Y7,d.mono l u,z⟩|c C d=>obtain⟨rfl,h⟩:=h;refine pd (l.d _ h) ?_;exact⟨Y7,i9 h u⟩|dict fs=>obtain⟨i,e,rfl,d⟩:=h;exact⟨i,e,Y7,d.mono l u⟩|cell v=>cases v with|none=>exact h|some v=>obtain⟨d,h,r⟩:=h;exact⟨d,h,r.mono l u⟩
 |d q=>obtain⟨ps,rfl,h⟩:=h;exact⟨ps,Y7,h.1,λpos cv e=>(h.2 pos cv e).mono l⟩
theorem OR.I{W:Wd}{n:Y9}{xs:Yb V}{c:Yr}(h:OR W n (.a xs) c):∃items e,c=Zu items e/\ll W n xs items.toList/\items.size<=k8:=h
theorem OR.T{W:Wd}{n:Y9}{o:O}{c:Yr}(h:OR W n o c):c.isFreed=Yc:=by cases o with
 |a xs=>obtain⟨i,e,rfl,d,z⟩:=h;rfl|c C d=>obtain⟨rfl,h⟩:=h;rfl|dict fs=>obtain⟨i,e,rfl,d⟩:=h;rfl|cell v=>cases v with|none=>obtain⟨c,d,F,u⟩:=c;subst h;rfl|some v=>obtain⟨d,h,r⟩:=h;obtain⟨c,d,F,u⟩:=c;subst h;rfl
 |d q=>obtain⟨ps,rfl,h⟩:=h;rfl
structure Hp where
 o:Y9->Yd O
 n:Y9
structure St extends h:Hp where
 l:Yb<|Str×V
 e:Yb<|Str×Y9:=[]a:Yd<|Nat×Yg:=Y8
abbrev St.I(σ:St)(x:Yg)(v:V):Prop:=σ.l.lookup x=Y6 v
structure mx where
 a:lG
 w:YB
 B:pJ
 b:YI
 T:Y9
noncomputable abbrev mx.M(P:mx):Zb:=Zs P.a P.w
structure lb(P:mx)(fr:Ln)(W:Wd)(σ:Hp)(s:j8):Prop where
 f:∀b o,P.B.get? b=Y6 o->s.heap.get? b=Y6 o
 y:∀k,k<σ.n->P.B.get? (W.c k)=Y8
 m:∀k,k<σ.n->∃o,s.heap.get? (W.c k)=Y6 o
 l:∀k,k<σ.n->W.c k∉fr
 w:∀k,k<σ.n->W.fz (W.c k)=Y8
 inj:∀i j,i<σ.n->j<σ.n->W.c i=W.c j->i=j
 o:∀k o,σ.o k=Y6 o->k<σ.n/\∃c,s.heap.get? (W.c k)=Y6 c/\OR W σ.n o c
 g:∀(a:Y9)c,W.fz a=Y6 c->s.heap.get? a=Y6 c/\a∉fr
 v:∀a∈fr,P.B.get? a=Y8/\∃o,s.heap.get? a=Y6 o/\∀vs,o.data≠.fields vs
 gens:s.gens=#[]z:s.os=P.b
 r:0<σ.n/\W.c 0=P.T
structure lm(P:mx)(env:Zk)(W:Wd)(σ:St)(h:pJ):Prop where
 kind:env.scope.kind=.function
 g:env.globals=dY
 f:env.builtins=fL
 l:∃m,h.Ns env.locals m/\∀x v,σ.l.lookup x=Y6 v->env.kindOf x=Y6 .local/\∃c,m x=Y6 c/\VR W σ.n v c
 e:∀x k,σ.e.lookup x=Y6 k->k<σ.n/\(env.kindOf x=Y6 .cell\/env.kindOf x=Y6 .free->env.cells.lookup x=Y6 (W.c k))d:∀k q,σ.a=Y6 (k,q)->k<σ.n/\env.qual++pX "<lambda>"=q/\∃c,env.code=.ref c/\CodeHd P.B c (W.c k)
structure Nx(fr:Ln)(L:Y9)(W:Wd)(n:Y9)(h:pJ)(W':Wd)(n':Y9)(h':pJ):Prop where
 d:tI n W W'
 le:n<=n'
 f:∀a o,h.get? a=Y6 o->∃o',h'.get? a=Y6 o'
 new:∀k,n<=k->k<n'->h.get? (W'.c k)=Y8
 m:∀a c,W'.fz a=Y6 c->W.fz a=Y6 c\/h.get? a=Y8
 ext:∀(a:Y9)o,h.get? a=Y6 o->a≠L->a∉fr->(∀k,k<n->W.c k≠a)->h'.get? a=Y6 o
 i:∀(a:Y9)o,a∈fr->a≠L->h.get? a=Y6 o->∃o',h'.get? a=Y6 o'/\o'.data=o.data
theorem Nx.cr(fr:Ln)(L:Y9)(W:Wd)(n:Y9)(h:pJ):Nx fr L W n h W n h:=⟨.I n W,j7 _,λq o e=>⟨o,e⟩,λq a b=>g9 b<|Nat.not_lt.mpr a,λq q e=>.inl e,λq q e q q q=>e,λq o q q e=>⟨o,e,Y7⟩⟩
theorem Nx.cB{fr:Ln}{L:Y9}{W W' W'':Wd}{n N F:Y9}{h S I:pJ}(a:Nx fr L W n h W' N S)(b:Nx fr L W' N S W'' F I):Nx fr L W n h W'' F I where
 d:=a.d.J a.le b.d
 le:=g8 a.le b.le
 f:=λx o e=>bn (a.f x o e) λo' u=>b.f x o' u
 new:=λk h1 h2=>by
  by_cases hk:k<N;.erw[b.d.d k hk];exact a.new k h1 hk
  .cases q:h.get? (W''.c k)with|none=>rfl|some o=>obtain⟨o',u⟩:=a.f _ _ q;replace u:=(b.new k (YR.mp hk) h2).symm.trans u;cases u
 m:=λx c e=>by
  rcases b.m x c e with q|q;.exact a.m x c q
  .right;cases Z:h.get? x with|none=>rfl|some o=>obtain⟨o',u⟩:=a.f _ _ Z;replace u:=q.symm.trans u;cases u
 ext:=λx o e h1 O h2=>b.ext x o (a.ext x o e h1 O h2) h1 O λk hk q=>by
  by_cases J:k<n;.obtain q:=(a.d.d k J).symm.trans q;exact h2 k J q
  .have:=a.new k (YR.mp J) hk;replace this:=e▸q▸this;cases this
 i:=λx o h1 h2 e=>by refine bC λY=>?_;obtain⟨o',u,X⟩:=a.i x o h1 h2 e;obtain⟨T,U,V⟩:=b.i x o' h1 h2 u;refine Y ?_;exact⟨T,U,V.trans X⟩
theorem Nx.d6{fr:Ln}{L:Y9}{W W':Wd}{n u:Y9}{h F:pJ}(I:tI n W W')(le:n<=u)(hk:∀b o,h.get? b=Y6 o->F.get? b=Y6 o)(new:∀k,n<=k->k<u->h.get? (W'.c k)=Y8)(fzn:∀a c,W'.fz a=Y6 c->W.fz a=Y6 c\/h.get? a=Y8):Nx fr L W n h W' u F:=⟨I,le,λq o e=>⟨o,hk _ _ e⟩,new,fzn,λq q e q q q=>hk _ _ e,λq o q q e=>⟨o,hk _ _ e,Y7⟩⟩
structure kc(P:mx)(fr:Ln)(env:Zk)(W:Wd)(σ:St)(s:j8)(W':Wd)(σ':St)(s':j8):Prop where
 w:Nx fr env.locals W σ.n s.heap W' σ'.n s'.heap
 f:lb P fr W' σ'.h s'
 l:lm P env W' σ' s'.heap
theorem kc.cr{P:mx}{fr:Ln}{env:Zk}{W W' W'':Wd}{σ σ' u:St}{s s' s'':j8}(a:kc P fr env W σ s W' σ' s')(b:kc P fr env W' σ' s' W'' u s''):kc P fr env W σ s W'' u s'':=⟨a.w.cB b.w,b.f,b.l⟩
section
variable{P:mx}{fr:Ln}{env:Zk}{W:Wd}{σ:St}{s:j8}
theorem lb.toks(I:lb P fr W σ.h s)(t:Y9):lb P fr W σ.h {s with toks:=t}:=⟨I.f,I.y,I.m,I.l,I.w,I.inj,I.o,I.g,I.v,I.gens,I.z,I.r⟩
theorem kc.toks(I:lb P fr W σ.h s)(L:lm P env W σ s.heap)(t:Y9):kc P fr env W σ s W σ {s with toks:=t}:=⟨.cr ..,I.toks t,L⟩
theorem kc.cB(I:lb P fr W σ.h s)(L:lm P env W σ s.heap):kc P fr env W σ s W σ s:=⟨.cr ..,I,L⟩
theorem lb.grow(I:lb P fr W σ.h s){s':j8}(hk:∀b o,s.heap.get? b=Y6 o->s'.heap.get? b=Y6 o)(hg:s'.gens=s.gens)(u:s'.os=s.os):lb P fr W σ.h s' where
 f:=λb o e=>hk _ _<|I.f b o e
 y:=I.y
 m:=λk h=>bn (I.m k h) λo e=>⟨o,hk _ _ e⟩
 l:=I.l
 w:=I.w
 inj:=I.inj
 o:=λk o e=>(I.o k o e).imp_right<|pY λc=>And.imp_left<|hk _ _
 g:=λa c e=>⟨hk _ _ (I.g a c e).1,(I.g a c e).2⟩
 v:=λa h=>⟨(I.v a h).1,am (I.v a h).2 λo e d=>⟨o,hk _ _ e,d⟩⟩
 gens:=hg.trans I.gens
 z:=u.trans I.z
 r:=I.r
theorem lm.grow(L:lm P env W σ s.heap){u:pJ}(hk:∀b o,s.heap.get? b=Y6 o->u.get? b=Y6 o):lm P env W σ u:=⟨L.kind,L.g,L.f,am L.l λm a b=>⟨m,a.keeps hk,b⟩,L.e,L.d⟩
theorem kc.grow(I:lb P fr W σ.h s)(L:lm P env W σ s.heap){s':j8}(hk:∀b o,s.heap.get? b=Y6 o->s'.heap.get? b=Y6 o)(hg:s'.gens=s.gens)(u:s'.os=s.os):kc P fr env W σ s W σ s':=⟨.d6 (.I ..) (j7 _) hk (λq a b=>g9 b<|Nat.not_lt.mpr a)<|λq q e=>.inl e,I.grow hk hg u,L.grow hk⟩
theorem kc.jt(I:lb P fr W σ.h s)(L:lm P env W σ s.heap)(o:Yr){s':j8}(e:s'.heap=s.heap.push o)(hg:s'.gens=s.gens)(u:s'.os=s.os):kc P fr env W σ s W σ s':=kc.grow I L (λq q x=>e▸eT _ x) hg u
structure qi(P:mx)(fr:Ln)(W:Wd)(n:Y9)(a:Y9):Prop where
 g:P.B.get? a=Y8
 d:a∉fr
 f:W.fz a=Y8
 b:∀k,k<n->W.c k≠a
def Wd.u(W:Wd)(a:Y9)(o:Yr):Wd:={W with fz:=λb=>if b=a then Y6 o else W.fz b}
theorem qi.new(I:lb P fr W σ.h s){a:Y9}(h:s.heap.get? a=Y8):qi P fr W σ.n a where
 g:=by cases q:P.B.get? a with|none=>rfl|some o=>have:=I.f _ _ q;rw[h]at this;cases this
 d:=λhm=>by obtain⟨o,e,_⟩:=(I.v _ hm).2;rw[h]at e;cases e
 f:=by cases q:W.fz a with|none=>rfl|some o=>have:=(I.g _ _ q).1;rw[h]at this;cases this
 b:=λk hk q=>by obtain⟨o,e⟩:=I.m k hk;replace e:=h▸q▸e;cases e
theorem kc.d7{W':Wd}{σ':St}{s':j8}(st:kc P fr env W σ s W' σ' s'){a:Y9}{o:Yr}(L:s.heap.get? a=Y8)(e:s'.heap.get? a=Y6 o)(x:qi P fr W' σ'.n a):kc P fr env W σ s (W'.u a o) σ' s':=by
 obtain fe:∀b,(W'.u a o).fz b=if b=a then Y6 o else W'.fz b:=λq=>Y7;have I:∀b c,W'.fz b=Y6 c->(W'.u a o).fz b=Y6 c:=λb c h=>by rw[fe,d8];exact h;rintro rfl;obtain h:=x.f.symm.trans h;exact lz h
 have F:tI σ'.n W'<|W'.u a o:=⟨λq q=>Y7,I⟩;have J:=st.f;refine⟨⟨st.w.d.J st.w.le F,st.w.le,st.w.f,st.w.new,λb c h=>?_,st.w.ext,st.w.i⟩,⟨J.f,J.y,J.m,J.l,λk h=>?_,J.inj,λk o' h=>?_,λb c h=>?_,J.v,J.gens,J.z,J.r⟩,?_⟩
 .by_cases u:b=a;.subst u;exact .inr L
  .obtain h:=bc u h;exact st.w.m b c h
 .exact bk (x.b k h)<|J.w k h
 .obtain⟨p,c,b,d⟩:=J.o k o' h;exact⟨p,c,b,d.mono F<|j7 _⟩
 .by_cases u:b=a;.subst u;replace h:=bi Y7 h;obtain rfl:=c0 h;exact⟨e,x.d⟩
  .obtain h:=bc u h;exact J.g b c h
 .obtain J':=st.l;exact⟨J'.kind,J'.g,J'.f,J'.l.imp λm=>lC λb x v h=>(b x v h).imp_right<|pY λc=>lC λr=>r.mono F<|j7 _,J'.e,J'.d⟩
theorem xH(h:pJ):h.get? h.objs.size=Y8:=gD<|j7 _
theorem kc.d6(I:lb P fr W σ.h s)(L:lm P env W σ s.heap)(o:Yr)(F:o.isFreed=Yc){s':j8}(e:s'.heap=s.heap.push o)(hg:s'.gens=s.gens)(u:s'.os=s.os):kc P fr env W σ s (W.u s.heap.objs.size o) σ s':=(kc.jt I L o e hg u).d7 (xH _) (e▸eX _ F)<|.new I<|xH _
def Wd.add(W:Wd)(n:Y9)(a:Y9):Wd:={W with c:=λk=>if k=n then a else W.c k}
def St.add(σ:St)(o:O):St:={σ with o:=λk=>if k=σ.n then Y6 o else σ.o k,n:=σ.n+1}
theorem Wd.I(W:Wd)(n:Y9)(a:Y9):tI n W<|W.add n a:=⟨λk h=>bk (v9 h) Y7,λq q e=>e⟩
theorem kc.jr{W':Wd}{σ':St}{s':j8}(st:kc P fr env W σ s W' σ' s'){a:Y9}{o:O}{c:Yr}(U:s.heap.get? a=Y8)(e:s'.heap.get? a=Y6 c)(x:qi P fr W' σ'.n a)(T:OR (W'.add σ'.n a) (σ'.n+1) o c):kc P fr env W σ s (W'.add σ'.n a) (σ'.add o) s':=by
 have I:=W'.I σ'.n a;have J:=st.f;have u:(W'.add σ'.n a).c σ'.n=a:=bj Y7 Y7;have F:∀k,k<σ'.n+1->k=σ'.n\/k<σ'.n/\(W'.add σ'.n a).c k=W'.c k:=λk h=>by
  rcases ZD.mp h with h|h;.exact .inr ⟨h,I.d k h⟩
  .exact .inl h
 refine⟨⟨st.w.d.J st.w.le I,n7 st.w.le,st.w.f,λk h1 h2=>?_,st.w.m,st.w.ext,st.w.i⟩,⟨J.f,λk h=>?_,λk h=>?_,λk h=>?_,λk h=>?_,λi j hi hj h=>?_,λk o' h=>?_,J.g,J.v,J.gens,J.z,dI J.r.1,(I.d 0 J.r.1).trans J.r.2⟩,?_⟩
 .rcases F k h2 with rfl|⟨q,r⟩;.erw[u];exact U
  .erw[r];exact st.w.new k h1 q
 .rcases F k h with rfl|⟨q,r⟩;.erw[u];exact x.g
  .erw[r];exact J.y k q
 .rcases F k h with rfl|⟨q,r⟩;.erw[u];exact⟨_,e⟩
  .erw[r];exact J.m k q
 .rcases F k h with rfl|⟨q,r⟩;.erw[u];exact x.d
  .erw[r];exact J.l k q
 .rcases F k h with rfl|⟨q,r⟩;.erw[u];exact x.f
  .erw[r];exact J.w k q
 .rcases F i hi with rfl|⟨q,r⟩<;>rcases F j hj with rfl|⟨q',r'⟩;.rfl
  .rw[u,r']at h;exact g9 h.symm<|x.b j q'
  .rw[u,r]at h;exact g9 h<|x.b i q
  .rw[r,r']at h;exact J.inj i j q q' h
 .have L:=h;by_cases N:k=σ'.n;.subst N;replace L:=bi Y7 L;obtain rfl:=c0 L;exact⟨u8 _,c,by erw[u];exact e,T⟩
  .obtain L:=bc N L;obtain⟨S,c',b,d⟩:=J.o k o' L;exact⟨dI S,c',by erw[I.d k S];exact b,d.mono I<|fM _⟩
 .obtain J':=st.l;exact⟨J'.kind,J'.g,J'.f,J'.l.imp λm=>lC λb x v h=>(b x v h).imp_right<|pY λc=>lC λr=>r.mono I<|fM _,λx k h=>cg (J'.e x k h) λp q=>⟨dI p,λhk=>by erw[I.d k p];exact q hk⟩,λk q h=>⟨dI (J'.d k q h).1,by rw[I.d k (J'.d k q h).1];exact(J'.d k q h).2⟩⟩
theorem kc.add(I:lb P fr W σ.h s)(L:lm P env W σ s.heap)(o:O)(c:Yr)(u:OR (W.add σ.n s.heap.objs.size) (σ.n+1) o c){s':j8}(e:s'.heap=s.heap.push c)(hg:s'.gens=s.gens)(F:s'.os=s.os):kc P fr env W σ s (W.add σ.n s.heap.objs.size) (σ.add o) s':=(kc.jt I L c e hg F).jr (xH _) (e▸eX _ u.T) (.new I<|xH _) u
def St.N(σ:St)(k:Y9)(o:O):St:={σ with o:=λj=>if j=k then Y6 o else σ.o j}
theorem kc.jv(I:lb P fr W σ.h s)(L:lm P env W σ s.heap){k:Y9}(hk:k<σ.n)(hL:env.locals∈fr)(o:O){c:Yr}{g:Y9->Yd Yr}{s':j8}(hz:∀a c,W.fz a=Y6 c->g a=Y6 c)(J:∀a c,g a=Y6 c->W.fz a=Y6 c\/s.heap.get? a=Y8/\s'.heap.get? a=Y6 c)(U:OR {W with fz:=g} σ.n o c)(hs:∀b o,b≠W.c k->s.heap.get? b=Y6 o->s'.heap.get? b=Y6 o)(hc:s'.heap.get? (W.c k)=Y6 c)(hg:s'.gens=s.gens)(V:s'.os=s.os):kc P fr env W σ s {W with fz:=g} (σ.N k o) s':=by
 have F:tI σ.n W {W with fz:=g}:=⟨λz z=>Y7,hz⟩;have lv:∀a o,s.heap.get? a=Y6 o->∃o',s'.heap.get? a=Y6 o':=λa o e=>by
  by_cases N:a=W.c k;.subst N;exact⟨_,hc⟩
  .exact⟨o,hs a o N e⟩
 refine⟨⟨F,j7 _,lv,λz a b=>g9 b<|Nat.not_lt.mpr a,λa c e=>(J a c e).imp_right And.left,λa o' e z z h=>hs a o' (gP<|h k hk) e,λa o' h1 z e=>⟨o',hs a o' (λq=>I.l k hk<|q▸h1) e,Y7⟩⟩,⟨λb o' e=>?_,I.y,λj h=>bn (I.m j h) λo e=>lv _ _ e,I.l,λj h=>?_,I.inj,λj o' h=>?_,λa c' h=>?_,λa h=>⟨(I.v a h).1,am (I.v a h).2 λo e d=>⟨o,hs a o (λq=>I.l k hk<|q▸h) e,d⟩⟩,hg.trans I.gens,V.trans I.z,I.r⟩,?_⟩;.refine hs b o' ?_<|I.f b o' e;rintro rfl;replace e:=(I.y k hk).symm.trans e;exact nomatch e
 .cases q:g (W.c j)with|none=>exact q|some c=>
   rcases J _ _ q with q|⟨q,_⟩;.replace q:=(I.w j h).symm.trans q;cases q
   .obtain⟨o,e⟩:=I.m j h;replace q:=q.symm.trans e;cases q
 .have u:=h;by_cases hj:j=k;.subst hj;replace u:=bi Y7 u;obtain rfl:=c0 u;exact⟨hk,c,hc,U⟩
  .refine bC λT=>?_;obtain u:=bc hj u;obtain⟨a,c',b,d⟩:=I.o j o' u;refine T ?_;exact⟨a,c',hs _ _ (λq=>hj<|I.inj j k a hk q) b,d.mono F<|j7 _⟩
 .rcases J a c' h with h|⟨q,e⟩;.refine⟨hs a c' ?_ (I.g a c' h).1,(I.g a c' h).2⟩;rintro rfl;obtain h:=(I.w k hk).symm.trans h;exact nomatch h
  .exact⟨e,(qi.new I q).d⟩
 .exact am L.l λm a b=>⟨L.kind,L.g,L.f,⟨m,a.extBut (λb o S e=>hs b o S e) λq=>I.l k hk<|q▸hL,λx v h=>(b x v h).imp_right<|pY λc=>lC λr=>r.mono F<|j7 _⟩,L.e,L.d⟩
theorem kc.ju(I:lb P fr W σ.h s)(L:lm P env W σ s.heap){k:Y9}(hk:k<σ.n)(hL:env.locals∈fr)(o:O){c:Yr}(F:OR W σ.n o c){s':j8}(hs:∀b o,b≠W.c k->s.heap.get? b=Y6 o->s'.heap.get? b=Y6 o)(hc:s'.heap.get? (W.c k)=Y6 c)(hg:s'.gens=s.gens)(u:s'.os=s.os):kc P fr env W σ s W (σ.N k o) s':=kc.jv (g:=W.fz) I L hk hL o (λq q e=>e) (λq q e=>.inl e) F hs hc hg u
def yP(x:Yg)(v:V)(l:Yb<|Str×V):Yb<|Str×V:=(x,v)::l
theorem ku{x y:Yg}{v:V}{l:Yb<|Str×V}:(yP x v l).lookup y=if y=x then Y6 v else l.lookup y:=by
 unfold yP;by_cases h:y=x;.subst h;simp[n3]
 .have:(y==x)=Yc:=n9 h;simp[n3,this,h]
def St.F(σ:St)(x:Yg)(v:V):St:={σ with l:=yP x v σ.l}
theorem kc.jw(I:lb P fr W σ.h s)(L:lm P env W σ s.heap)(hL:env.locals∈fr){x:Yg}{v:V}{c:n4}(hv:VR W σ.n v c)(Z:env.kindOf x=Y6 .local){m:Yg->Yd n4}(hm:s.heap.Ns env.locals m){s':j8}(U:s'.heap.Ns env.locals<|λy=>if y=x then Y6 c else m y)(hs:mU env.locals s.heap s'.heap)(hg:s'.gens=s.gens)(Y:s'.os=s.os):kc P fr env W σ s W (σ.F x v) s':=by
 have lv:∀a o,s.heap.get? a=Y6 o->∃o',s'.heap.get? a=Y6 o':=λa o e=>by
  by_cases O:a=env.locals;.subst O;exact dv U λo' z z S z=>⟨o',S⟩
  .exact⟨o,(hs.2 a O).trans e⟩
 refine⟨⟨.I ..,j7 _,lv,λz a b=>g9 b<|Nat.not_lt.mpr a,λz z e=>.inl e,λa o' e h z z=>(hs.2 a h).trans e,λa o' z h e=>⟨o',(hs.2 a h).trans e,Y7⟩⟩,⟨λb o' e=>?_,I.y,λj h=>let⟨o,e⟩:=I.m j h;lv _ _ e,I.l,I.w,I.inj,λj o' h=>?_,λa c' h=>?_,λa h=>⟨(I.v a h).1,by
  by_cases O:a=env.locals;.subst O;exact cy U λo' a3 a4 S X z=>⟨o',S,λvs q=>by replace q:=X.symm.trans q;cases q⟩
  .exact am (I.v a h).2 λo e d=>⟨o,(hs.2 a O).trans e,d⟩⟩,hg.trans I.gens,Y.trans I.z,I.r⟩,?_⟩;.refine(hs.2 b ?_).trans<|I.f b o' e;rintro rfl;replace e:=(I.v _ hL).1.symm.trans e;cases e
 .refine bC λT=>?_;obtain⟨a,c',b,d⟩:=I.o j o' h;refine T ?_;exact⟨a,c',(hs.2 (W.c j) λq=>I.l j a<|by rw[q];exact hL).trans b,d⟩
 .refine⟨(hs.2 a ?_).trans (I.g a c' h).1,(I.g a c' h).2⟩;rintro rfl;exact(I.g _ _ h).2 hL
 .refine am L.l λm' a b=>⟨L.kind,L.g,L.f,⟨_,U,λy u h=>?_⟩,L.e,L.d⟩;obtain F:=ku.symm.trans h;by_cases hy:y=x;.subst hy;replace F:=bi Y7 F;obtain rfl:=c0 F;exact⟨Z,c,by simp,hv⟩
  .refine bC λT=>?_;obtain F:=bc hy F;obtain⟨p,c',q,r⟩:=b y u F;refine T ?_;refine⟨p,c',(d8 hy).trans ?_,r⟩;rw[<-(by refine cj a λo1 a2 e1 g1 d1 k1 f1=>cj hm λo2 a5 e2 J N k2 f2=>?_;replace J:=g1.symm.trans J;injection J with J;subst J;replace N:=d1.symm.trans N;injection N with N;subst N;rw[<-f1,<-f2]:m' y=m y)];exact q
end
set_option genCtorIdx true in inductive Rs(α:Type)where|c(a:α)(σ:St)|b
def Rs.F{α β:Type}(r:Rs α)(f:α->St->Rs β):Rs β:=match r with|.c a σ=>f a σ|.b=>.b
def nu(e:n4)(s':j8):Prop:=False
theorem nu.elim{C:Prop}{e:n4}{s':j8}(h:nu e s'):C:=False.elim h
theorem nu.F{e:n4}{s':j8}{u:n4}{s'':j8}{p:Prop}(a:p)(h:nu e s'):nu u s'':=False.elim h
structure Fm(P:mx)(lv:Y9)(fr:Ln)(A:cG)(env:Zk):Prop where
 f:env.locals∈fr
 b:A.handled=Y8
 g:A.units+20*lv+200<cLine
 d:A.depth+10*lv+100<sB
 frames:∃l,A.frames=Y6 l/\∀e∈l,e.scope.kind≠.module/\∃L,e.frame=Y6 L/\L∈fr
section
variable(P:mx)(fr:Ln)(env:Zk)(W:Wd)(σ:St)(s:j8)
inductive kq(r:Rs V)(c:n4)(s':j8):Prop where|mk(v:V)(σ':St)(W':Wd)(h1:r=.c v σ')(h2:kc P fr env W σ s W' σ' s')(h3:VR W' σ'.n v c)
inductive tQ(r:Rs Yj)(b:Yj)(s':j8):Prop where|mk(σ':St)(W':Wd)(h1:r=.c b σ')(h2:kc P fr env W σ s W' σ' s')
inductive tR(r:Rs<|List V)(c:Lv)(s':j8):Prop where|mk(v:Yb V)(σ':St)(W':Wd)(h1:r=.c v σ')(h2:kc P fr env W σ s W' σ' s')(h3:ll W' σ'.n v c)
end
section
variable{P:mx}{fr:Ln}{A:cG}{env:Zk}{W W':Wd}{σ σ':St}{s s':j8}
theorem kq.elim{r:Rs V}{c:n4}{s'':j8}{G:Prop}(h:kq P fr env W σ s r c s'')(k:∀v σ' W',r=.c v σ'->kc P fr env W σ s W' σ' s''->VR W' σ'.n v c->G):G:=by cases h with|mk v σ' W' a b d=>exact k v σ' W' a b d
theorem tR.elim{r:Rs<|List V}{c:Lv}{s'':j8}{G:Prop}(h:tR P fr env W σ s r c s'')(k:∀v σ' W',r=.c v σ'->kc P fr env W σ s W' σ' s''->ll W' σ'.n v c->G):G:=by cases h with|mk v σ' W' a b d=>exact k v σ' W' a b d
theorem tQ.elim{r:Rs Yj}{c:Yj}{s'':j8}{G:Prop}(h:tQ P fr env W σ s r c s'')(k:∀σ' W',r=.c c σ'->kc P fr env W σ s W' σ' s''->G):G:=by cases h with|mk σ' W' a b=>exact k σ' W' a b
theorem kq.F{r:Rs V}{c:n4}{s'':j8}(a:kc P fr env W σ s W' σ' s')(b:kq P fr env W' σ' s' r c s''):kq P fr env W σ s r c s'':=by obtain⟨v,u,W'',e,st,h⟩:=b;exact⟨v,u,W'',e,a.cr st,h⟩
theorem tQ.F{r:Rs Yj}{c:Yj}{s'':j8}(a:kc P fr env W σ s W' σ' s')(b:tQ P fr env W' σ' s' r c s''):tQ P fr env W σ s r c s'':=by obtain⟨u,W'',e,st⟩:=b;exact⟨u,W'',e,a.cr st⟩
theorem tR.F{r:Rs<|List V}{c:Lv}{s'':j8}(a:kc P fr env W σ s W' σ' s')(b:tR P fr env W' σ' s' r c s''):tR P fr env W σ s r c s'':=by obtain⟨v,u,W'',e,st,h⟩:=b;exact⟨v,u,W'',e,a.cr st,h⟩
theorem Rs.u{α β:Type}{r:Rs α}{f:α->St->Rs β}{a:α}{σ:St}(h:r=.c a σ):r.F f=f a σ:=by erw[h];rfl
theorem Rs.J{α β:Type}{r:Rs α}{f:α->St->Rs β}(h:r.F f≠.b):r≠.b:=by rintro rfl;exact h Y7
def q7(P:mx)(fr:Ln)(A:cG)(env:Zk)(t:s_ n4)(f:St->Rs V):Prop:=∀W σ s,lb P fr W σ.h s->lm P env W σ s.heap->f σ≠.b->Yi P.M A t (kq P fr env W σ s<|f σ) nu s
def xj(P:mx)(fr:Ln)(A:cG)(env:Zk)(t:s_ Yj)(f:St->Rs Yj):Prop:=∀W σ s,lb P fr W σ.h s->lm P env W σ s.heap->f σ≠.b->Yi P.M A t (tQ P fr env W σ s<|f σ) nu s
def IV(P:mx)(fr:Ln)(A:cG)(env:Zk)(t:s_<|Lv)(f:St->Rs (Yb V)):Prop:=∀W σ s,lb P fr W σ.h s->lm P env W σ s.heap->f σ≠.b->Yi P.M A t (tR P fr env W σ s<|f σ) nu s
theorem FB{α:Type}{t:s_ n4}{f:St->Rs V}{g:n4->s_ α}{k:V->St->Rs α'}{Q:α->j8->Prop}{E:Pv}(J:q7 P fr A env t f)(I:lb P fr W σ.h s)(L:lm P env W σ s.heap)(u:(f σ).F k≠.b)(hg:∀v c W' σ' s',f σ=.c v σ'->kc P fr env W σ s W' σ' s'->VR W' σ'.n v c->Yi P.M A (g c) Q E s'):Yi P.M A t (λc s'=>Yi P.M A (g c) Q E s') E s:=m8 (J W σ s I L<|Rs.J u) (λc s' F=>F.elim λv σ' W' e st hv=>hg v c W' σ' s' e st hv)<|λe s' h=>h.elim
end
inductive Ov where|b(v:V)|a
def Ov.st(r:Ov)(σ:St):Rs V:=match r with|.b v=>.c v σ|.a=>.b
def sv:Yd O->Yd (Yb V)|some<|.a xs=>Y6 xs|_=>Y8
theorem FD{o:Yd O}{xs:Yb V}(h:sv o=Y6 xs):o=Y6 (.a xs):=by cases o with|none=>cases h|some o=>cases o with|a ys=>obtain rfl:=c0 h;rfl|_=>cases h
def lj(H:Hp):V->Yd (Yb V)|.h xs=>Y6 xs|.g k=>sv<|H.o k|_=>Y8
def nc(H:Hp):V->Yd Yj|.none=>Y6 Yc|.j b=>Y6 b|.d i=>Y6<|i !=0|.t _ _=>Y6 Ye|v=>(lj H v).map λxs=>!xs.isEmpty
def kt:V->Yd Yg|.f x=>Y6 x|_=>Y8
def qV:V->Yd Yh|.d x=>Y6 x|_=>Y8
theorem qI{v:V}{x:Yg}:kt v=Y6 x->v=.f x:=by cases v<;>intro h<;>first|exact i6 _<|c0 h|exact lz h
theorem qJ{v:V}{x:Yh}:qV v=Y6 x->v=.d x:=by cases v<;>intro h<;>first|exact i6 _<|c0 h|exact lz h
theorem qP{α β:Type}{o:Yd α}{f:α->β}{b:β}(h:o.elim b f≠b):∃a,o=Y6 a:=by cases o with|none=>exact g9 Y7 h|some a=>exact⟨a,Y7⟩
def Bb(f:Yh->Yh->Ov)(a b:V):Ov:=(qV a).elim .a λx=>(qV b).elim .a λy=>f x y
def Bc:V->Yd (Yb V)|.h x=>Y6 x|_=>Y8
theorem IW{v:V}{x:Yb V}:Bc v=Y6 x->v=.h x:=by cases v<;>intro h<;>first|exact i6 _<|c0 h|exact lz h
def Bd:V->Yd (Y9×Y9)|.t p e=>Y6 (p,e)|_=>Y8
theorem wZ{v:V}{x:Y9×Y9}:Bd v=Y6 x->v=.t x.1 x.2:=by cases v<;>intro h<;>first|exact lz h|exact c0 h▸Y7
def xk(H:Hp):V->Yd (Y9×Yb V)|.g k=>(sv<|H.o k).map λxs=>(k,xs)|_=>Y8
theorem jB{H:Hp}{v:V}{k:Y9}{xs:Yb V}:xk H v=Y6 (k,xs)->v=.g k/\H.o k=Y6 (.a xs):=by
 cases v<;>intro h<;>first|exact lz h|skip
 refine jk h λys h1 h2=>?_;injection h2 with h2 h_;subst h2 h_;exact⟨Y7,FD h1⟩
def wn(_:Hp)(a b:V):Ov:=(qV a).elim ((kt a).elim ((Bc a).elim .a λxs=>(Bc b).elim .a λys=>if xs.length+ys.length<=k8 then .b<|.h (xs++ys)else .a)
  λx=>(kt b).elim .a λy=>if x.length+y.length<=k8 then .b<|.f (x++y)else .a) λx=>(qV b).elim .a λy=>.b<|.d<|x+y
def Be(x:Yg)(b:V):Ov:=(qV b).elim .a λi=>if i=3/\x.length=1 then .b<|.f (x++x++x)else .a
def PU(a b:V):Ov:=(kt a).elim .a λx=>Be x b
def Ay(H:Hp)(op:Operator)(a b:V):Ov:=match op with|.Add=>wn H a b|.Sub=>Bb (λx y=>.b<|.d<|x-y) a b|.Mult=>PU a b|.FloorDiv=>Bb (λx y=>if 0<y/\y<1000 then .b<|.d (x.fdiv y)else .a) a b|.Mod=>Bb (λx y=>if y=0 then .a else .b<|.d<|x.fmod y) a b|_=>.a
def qg(H:Hp):Y9->V->Yd ZW:=nr (λq=>Y8) λr v=>match v with|.none=>Y6 .none|.j b=>Y6<|.bool b|.d i=>Y6<|.int i|.f s=>Y6<|.str s|.h xs=>(xs.mapM r).map .list|.n xs=>(xs.mapM r).map .tuple|.g k=>(sv<|H.o k).bind λxs=>(xs.mapM r).map .list|_=>Y8
def FE(H:Hp)(a b:V):Yd Yj:=(qg H 8 a).bind λx=>(qg H 8 b).map λy=>fB x y
def D3(f:Yh->Yh->Yj)(a b:V):Yd Yj:=(qV a).bind λx=>(qV b).map λy=>f x y
def IX(H:Hp)(a b:V):Yd Yj:=(qg H 8 a).bind λx=>(lj H b).bind λys=>(ys.mapM<|qg H 7).map λl=>l.any λy=>fB y x
def inB(H:Hp)(a b:V):Yd Yj:=(kt b).elim (IX H a b) λx=>(kt a).map λy=>u9 x y
def FG:V->Yd Yj|.none=>Y6 Ye|.d _=>Y6 Yc|.h _=>Y6 Yc|.t _ _=>Y6 Yc|_=>Y8
def FH(a b:V):Yd Yj:=match b with|.none=>FG a|_=>Y8
def IY(H:Hp)(op:CmpOp)(a b:V):Yd Yj:=match op with|.Eq=>FE H a b|.NotEq=>(FE H a b).map (!·)|.Lt=>D3 (λx y=>Yk<|x<y) a b|.Gt=>D3 (λx y=>Yk<|x>y) a b|.GtE=>D3 (λx y=>Yk<|x≥y) a b|.In=>inB H a b|.Is=>FH a b|.IsNot=>(FH a b).map (!·)|.NotIn=>(inB H a b).map (!·)|_=>Y8
def Az:Yd Yj->Ov|some b=>.b<|.j b|Option.none=>.a
def wM(H:Hp)(op:CmpOp)(a b:V):Ov:=Az<|IY H op a b
def xl(v:V):Ov:=(qV v).elim .a λa=>.b<|.d<|-a
def ow(i:Yh):Yj:=Yk (-(2^63:Yh)<=i)&&Yk (i<2^63)
def FI(H:Hp):V->Yd (Yb V)|.n xs=>Y6 xs|v=>lj H v
def qw(H:Hp)(a i:V):Ov:=(qV i).elim .a λk=>if ow k then(match kt a with|some x=>((YL k x.length).bind (x.cps[·]?)).elim .a λc=>.b<|.f ⟨#[c]⟩|Option.none=>(FI H a).elim .a λxs=>((YL k xs.length).bind (xs[·]?)).elim .a .b)else .a
def D4:V->Yd (Yd Yh)|.none=>Y6 Y8|.d i=>Y6<|some i|_=>Y8
def qh{α:Type}(xs:Yb α)(lo hi:Yd Yh):Yb α:=(xs.drop<|lo.elim 0<|clipAt xs.length).take<|hi.elim xs.length (Z5 xs.length)-lo.elim 0 (Z5 xs.length)
def yO(H:Hp)(a lo hi:V):Ov:=(D4 lo).elim .a λl=>(D4 hi).elim .a λh=>match kt a with|some x=>.b<|.f ⟨(qh x.cps.toList l h).toArray⟩|Option.none=>(lj H a).elim .a λxs=>.b<|.h<|qh xs l h
def mu(H:Hp):V->Yd (Yb V)|.n xs=>Y6 xs|.q a b c=>Y6<|(pZ (m6 a b c).toNat).map λ(i:Y9)=>.d<|a+(i:Yh)*c|v=>lj H v
structure Cx where
 j:Y9:=0
 p:Yg->Yd V
 i:V->Yb V->Hp->Rs V
 k:V->Yg->Hp->Yd (V×Yb V)m:V->Yg->Hp->Ov
def Rs.I{α:Type}(r:Rs α)(σ:St):Rs α:=match r with|.c a σ'=>.c a {σ with h:=σ'.h}|.b=>.b
def zk(b:V)(σ:St)(t:St->Rs V):Rs<|Option V:=match nc σ.h b with|some Ye=>(t σ).F λr a7=>.c (Y6 r) a7|some Yc=>.c Y8 σ|Option.none=>.b
open Classical in
def nd(v:V)(all:Yb V)(f:V->St->Rs (Yd V)):Yb V->St->Rs (Yb V):=lr (λσ=>if mu σ.h v=Y6 all then .c [] σ else .b) λx q r σ=>if mu σ.h v=Y6 all then(match f x σ with
  | .c o a7=>(r a7).F λvs a8=>.c (o.toList++vs) a8
  |_=>.b)else .b
open Classical in
theorem FJ{v:V}{all:Yb V}{f:V->St->Rs (Yd V)}{σ:St}:nd v all f [] σ=if mu σ.h v=Y6 all then .c [] σ else .b:=Y7
open Classical in
theorem D5{v:V}{all:Yb V}{f:V->St->Rs (Yd V)}{x:V}{r:Yb V}{σ:St}:nd v all f (x::r) σ=if mu σ.h v=Y6 all then(match f x σ with
  | .c o a7=>(nd v all f r a7).F λvs a8=>.c (o.toList++vs) a8
  |_=>.b)else .b:=Y7
def BP:V->Yd (Yb V)|.n xs=>Y6 xs|_=>Y8
def two:Yb V->Yd (V×V)|[a,b]=>Y6 (a,b)|_=>Y8
def FK(x:Yg)(v:V):Yd<|List<|Str×V:=Y6 [(x,v)]
def Bf(x y:Yg)(v:V):Yd<|List<|Str×V:=((BP v).bind two).map λq=>[(y,q.2),(x,q.1)]
def jL{α:Type}(v:V)(σ:St)(k:Yb V->St->Rs α):Rs α:=match v with|.h xs=>k xs σ|_=>.b
def pf(n:Y9)(r:Rs V):Rs V:=if n<=k8 then r else .b
def mv(v:V)(σ:St)(t e:St->Rs V):Rs V:=match nc σ.h v with|some Ye=>t σ|some Yc=>e σ|Option.none=>.b
def vc(σ:St)(v:V):Rs V:=match σ.a with
 |some (k,q)=>match σ.o k with|some<|.d q'=>if q'=q then .c v σ else .b|_=>.b
 |Option.none=>.b
variable(cx:Cx)in
def ev:X->St->Rs V:=@X.rec (λq=>St->Rs V)
 (λσ=>.c .none σ) (λb σ=>.c (.j b) σ) (λi σ=>.c (.d i) σ) (λs σ=>.c (.f s) σ)
 λx σ=>match σ.l.lookup x with|some v=>.c v σ|Option.none=>.b
 λx σ=>match σ.e.lookup x with
  |some k=>match σ.o k with|some<|.cell<|some v=>.c v σ|_=>.b
  |Option.none=>.b
 λx σ=>match cx.p x with|some v=>.c v σ|Option.none=>.b
 (λop q q a b σ=>(a σ).F λu a7=>(b a7).F λF a8=>(Ay a8.h op u F).st a8)
 (λq a σ=>(a σ).F λu a7=>(xl u).st a7)
 (λq a σ=>(a σ).F λu a7=>match nc a7.h u with|some b=>.c (.j !b) a7|Option.none=>.b)
 (λop q q a b σ=>(a σ).F λu a7=>(b a7).F λF a8=>(wM a8.h op u F).st a8)
 (λq q a b σ=>(a σ).F λu a7=>mv u a7 b<|λa7=>.c u a7)
 (λq q a b σ=>(a σ).F λu a7=>mv u a7 (λa7=>.c u a7) b)
 (λq q q c a b σ=>(c σ).F λJ a7=>mv J a7 a b)
 (λq q a i σ=>(a σ).F λu a7=>(i a7).F λvi a8=>(qw a8.h u vi).st a8)
 (λq q q a lo hi σ=>(a σ).F λu a7=>(lo a7).F λI a8=>(hi a8).F λL aE=>(yO aE.h u I L).st aE)
 (λq f o σ=>(o σ).F λvo a7=>(cx.m vo f a7.h).st a7)
 (λq es σ=>(es σ).F λvs a7=>jL vs a7 λxs a7=>pf xs.length<|.c (.h xs) a7)
 (λq es σ=>(es σ).F λvs a7=>jL vs a7 λxs a7=>pf xs.length<|.c (.n xs) a7)
 (λσ=>.c (.h []) σ)
 (λq q a b σ=>(a σ).F λu a7=>(b a7).F λvs a8=>jL vs a8 λxs a8=>.c (.h<|u::xs) a8)
 (λq q f as σ=>(f σ).F λvf a7=>(as a7).F λvs a8=>jL vs a8 λxs a8=>(cx.i vf xs a8.h).I a8)
 (λq m q o as σ=>(o σ).F λvo a7=>match cx.k vo m a7.h with|some (vf,first)=>(as a7).F λvs a8=>jL vs a8 λxs a8=>(cx.i vf (first++xs) a8.h).I a8|Option.none=>.b)
 (λq x q q elt it cond σ=>(it σ).F λvi a7=>match mu a7.h vi with|some xs=>(nd vi xs (λv a8=>(cond {a8 with l:=[(x,v)],e:=a7.e,a:=Y8}).F λb aE=>zk b aE elt) xs a7).F λvs a8=>pf vs.length<|.c (.h vs) {a7 with h:=a8.h}|Option.none=>.b)
 (λps b q σ=>vc σ<|.r ps b σ.e)
 (λx q e σ=>(e σ).F λv a7=>.c v<|a7.F x v)
 (λq es σ=>(es σ).F λvs a7=>jL vs a7 λxs a7=>pf xs.length<|.c (.g a7.n)<|a7.add<|.a xs)<|λq x y q elt it σ=>(it σ).F λvi a7=>match mu a7.h vi with|some xs=>(nd vi xs (λv a8=>(Bf x y v).elim .b λl=>(elt {a8 with l:=l,e:=a7.e,a:=Y8}).F λr aE=>.c (Y6 r) aE) xs a7).F λvs a8=>pf vs.length<|.c (.h vs) {a7 with h:=a8.h}|Option.none=>.b
section
variable{P:mx}{fr:Ln}{A:cG}{env:Zk}{W:Wd}{σ:St}{s:j8}
theorem qL{r:Rs V}{v:V}{c:n4}{W':Wd}{σ':St}{s':j8}(e:r=.c v σ')(st:kc P fr env W σ s W' σ' s')(h:VR W' σ'.n v c):kq P fr env W σ s r c s':=⟨v,σ',W',e,st,h⟩
theorem xK(I:lb P fr W σ.h s){v:V}{c:n4}{xs:Yb V}(hv:VR W σ.n v c)(e:lj σ.h v=Y6 xs):∃a items,c=.ref a/\s.heap.IsList a items/\ll W σ.n xs items.toList/\items.size<=k8:=by obtain hv:=hv.Z;cases v with|h=>refine ed hv λq q q q u a b d z r q=>?_;subst u;obtain rfl:=c0 e;exact⟨_,_,Y7,⟨_,(I.g _ _ a).1,b,_,d⟩,r,z⟩|g=>obtain⟨rfl,h⟩:=hv;obtain⟨_,J,hg,F⟩:=I.o _ _<|FD e;refine bp F.I λq q u r z=>?_;subst u;exact⟨_,_,Y7,⟨_,hg,Y7,_,Y7⟩,r,z⟩|_=>exact lz e
theorem ny{E:Pv}(I:lb P fr W σ.h s){v:V}{c:n4}{b:Yj}{Q:Yj->j8->Prop}(hv:VR W σ.n v c)(e:nc σ.h v=Y6 b)(h:∀t,Q b {s with toks:=t}):Yi P.M A (truthy c) Q E s:=by
 obtain key:∀xs,lj σ.h v=Y6 xs->b=!xs.isEmpty->Yi P.M A (truthy c) Q E s:=λxs N J=>by refine cm (xK I hv N) λa items F O L hz=>?_;subst F;refine wpAny_truthy_list O (mH (Z9.mpr hz) iu) ?_;exact zJ5 (by refine pd Array.isEmpty_toList ?_;exact L.ind (C:=λxs l=>l.isEmpty=xs.isEmpty) Y7 λz z z=>Y7:items.isEmpty=xs.isEmpty)<|pd J<|h _
 refine bC λu=>?_;replace list:=λq=>u<|(λq=>am (jl q) λxs h1 h2=>    key xs h1 h2.symm) q;clear key;have hv:=hv.Z;cases v with|none=>obtain rfl:=hv;obtain rfl:=c0 e;exact u<|truthy_none<|h s.toks|j b=>obtain rfl:=hv;obtain rfl:=c0 e;exact u<|wpAny_truthy_bool<|h s.toks|d i=>obtain⟨_,rfl⟩:=hv;obtain rfl:=c0 e;exact u<|PySem.P.truthy_int<|h s.toks|t=>obtain⟨_,_,_,_,_,_,_,_,_,rfl,a,b,_⟩:=hv;obtain rfl:=c0 e;exact u<|by refine g7<|wpAny_callSpecial?_none ⟨_,(I.g _ _ a).1,b⟩ (by kernel_rfl) ?_;exact g7<|wpAny_specialOf ⟨_,(I.g _ _ a).1,b⟩ (by kernel_rfl:typeLookup (.type "re.Match") "__len__"=Zg Y8)<|j6<|h s.toks|h=>exact list e|g=>exact list e|_=>exact lz e
theorem kX{x y:Yg}(u:fH x)(hy:fH y):fH<|x++y:=by show(x.cps++y.cps).all _=Ye;rw[Array.all_append,j0];exact⟨u,hy⟩
theorem jR(I:lb P fr W σ.h s)(L:lm P env W σ s.heap){xs:Yb V}{items:Yp n4}(F:ll W σ.n xs items.toList)(hz:items.size<=k8){s':j8}(e:s'.heap=s.heap.push {cls:=.type "list",data:=.seq items})(hg:s'.gens=s.gens)(u:s'.os=s.os):kq P fr env W σ s (.c (.h xs) σ) (.ref s.heap.objs.size) s':=by obtain st:=kc.d6 I L {cls:=.type "list",data:=.seq items} Y7 e hg u;exact⟨_,σ,_,Y7,st,.ee (items:=items) (e:=0) (bj Y7 Y7) Y7 Y7 hz (F.mono st.w.d<|j7 _) Y7⟩
theorem IZ(I:lb P fr W σ.h s)(L:lm P env W σ s.heap){xs:Yb V}{items:Yp n4}(F:ll W σ.n xs items.toList)(hz:items.size<=k8){s':j8}(e:s'.heap=s.heap.push {cls:=.type "tuple",data:=.seq items})(hg:s'.gens=s.gens)(u:s'.os=s.os):kq P fr env W σ s (.c (.n xs) σ) (.ref s.heap.objs.size) s':=by obtain st:=kc.d6 I L {cls:=.type "tuple",data:=.seq items} Y7 e hg u;exact⟨_,σ,_,Y7,st,.jv (items:=items) (e:=0) (bj Y7 Y7) Y7 Y7 hz<|F.mono st.w.d<|j7 _⟩
theorem J0{x y:Yg}(h:x.length==0):x++y=y:=by have:x.cps=#[]:=fJ (by simpa[Str.length]using h);show Str.mk (x.cps++y.cps)=y;rw[this];simp
theorem J1{x y:Yg}(h:y.length==0):x++y=x:=by have:y.cps=#[]:=fJ (by simpa[Str.length]using h);show Str.mk (x.cps++y.cps)=x;rw[this];rfl
theorem FL{f:Yh->Yh->Ov}{a b:V}(h:(Bb f a b).st σ≠.b):∃x y,a=.d x/\b=.d y:=by obtain⟨x,e1⟩:=qP (o:=qV a) (b:=Ov.a) λq=>h<|i6 (Ov.st · σ) q;obtain⟨y,e2⟩:=qP (o:=qV b) (f:=λy=>f x y) (b:=Ov.a) λq=>h<|i6 (Ov.st · σ)<|(by unfold Bb;erw[e1];rfl:Bb f a b=(qV b).elim Ov.a λy=>f x y).trans q;exact⟨x,y,qJ e1,qJ e2⟩
set_option tactic.hygienic true
theorem PW(I:lb P fr W σ.h s)(L:lm P env W σ s.heap){a b:V}{ca cb:n4}(ha:VR W σ.n a ca)(Z:VR W σ.n b cb)(N:(wn σ.h a b).st σ≠.b):Yi P.M A (binaryOp .Add ca cb) (kq P fr env W σ s<|(wn σ.h a b).st σ) nu s:=by refine bC λO=>?_;cases e1:qV a with|some i=>obtain rfl:=qJ e1;obtain⟨j,e2⟩:=qP (o:=qV b) (f:=λy=>Ov.b<|.d<|i+y) (b:=.a) λq=>N<|i6 (Ov.st · σ) q;obtain rfl:=qJ e2;obtain⟨_,rfl⟩:=ha.U;obtain⟨_,rfl⟩:=Z.U;exact O<|PySem.P.add_int<|qL Y7 (kc.toks I L _)<|.cr ..|none=>cases e2:kt a with
  |some x=>
   obtain rfl:=qI e2;obtain⟨y,e3⟩:=qP (o:=kt b) (f:=λy=>if x.length+y.length<=k8 then Ov.b<|.f (x++y)else .a) (b:=.a) λq=>N<|i6 (Ov.st · σ) q;obtain rfl:=qI e3;by_cases u:x.length+y.length<=k8
   .obtain e:wn σ.h (.f x) (.f y)=.b (.f<|x++y):=d9 u;rw[e]at O;obtain⟨_,rfl,hx,X⟩:=ha.T;obtain⟨_,rfl,hy,Y⟩:=Z.T;refine O<|PySem.P.add_str ?_;split;.rename_i h;exact qL Y7 (kc.cB I L)<|by exact zJ5 (J0 h)<|.d6 _ _ hy Y
    .split;.rename_i h;exact qL Y7 (kc.cB I L)<|by exact zJ5 (J1 h)<|.d6 _ _ hx X
     .obtain S:(x++y).length<=k8:=by show(x.cps++y.cps).size<=_;erw[nQ];exact u
      exact⟨S,qL Y7 (kc.toks I L _)<|.d6 _ _ S<|kX X Y⟩
   .exact N<|i6 (Ov.st · σ)<|d8 u|none=>
   rw[(by unfold wn;rw[e1,e2];rfl:wn σ.h a b=(Bc a).elim .a λxs=>(Bc b).elim .a λys=>if xs.length+ys.length<=k8 then .b<|.h (xs++ys)else .a)]at N O;obtain⟨xs,e3⟩:=qP<|λq=>N<|i6 (Ov.st · σ) q;obtain rfl:=IW e3;obtain⟨ys,e4⟩:=qP (o:=Bc b) (f:=λys=>if xs.length+ys.length<=k8 then Ov.b<|.h (xs++ys)else .a) (b:=.a) λq=>N<|i6 (Ov.st · σ) q;obtain rfl:=IW e4;by_cases u:xs.length+ys.length<=k8
   .refine cm (xK I ha (xs:=xs) Y7) λl items ab S hr hz=>cm (xK I Z (xs:=ys) Y7) λb J a7 a6 T ak=>?_;obtain⟨⟨cls,dd,data,sl⟩,ho,hc,n,hd⟩:=id S;obtain⟨⟨ae,a4,ad,aa⟩,U,a9,n2,ac⟩:=id a6;subst hc;subst hd;subst a9;subst ac;obtain h1:=hr.N;obtain h2:=T.N;rw[n8]at h1 h2;obtain hs:items.size+J.size<=k8:=by exact zJ5 h1<|zJ5 h2 u
    refine O ?_;show Yi _ _ _ (kq P fr env W σ s<|(if xs.length+ys.length<=k8 then Ov.b<|.h (xs++ys)else .a).st σ) nu s;refine zJ5 (d9 u)<|zJ5 ab<|zJ5 a7 ?_;exact concat_meets ⟨_,ho,Y7⟩ ⟨_,U,Y7⟩ noFill_list_add seq_list_add PySem.F.slot_list_add PySem.F.entry_list_add (PySem.F.args_list_add_2 _ _) (list_addW l b items J n n2 dd a4 sl aa hs) ⟨ho,U,jR (items:=items++J) I L (by exact zJ5 lB<|hr.X T) (by exact zJ5 nQ hs) Y7 Y7 Y7⟩
   .exact N<|i6 (Ov.st · σ)<|d8 u
theorem PX(I:lb P fr W σ.h s)(L:lm P env W σ s.heap){x:Yg}{b:V}{N O:n4}(T:VR W σ.n (.f x) N)(S:VR W σ.n b O)(F:(Be x b).st σ≠.b):Yi P.M A (binaryOp .Mult N O) (kq P fr env W σ s<|(Be x b).st σ) nu s:=by
 revert F;unfold Be;intro F;obtain⟨i,hi⟩:=qP (α:=Yh)<|λq=>F (by rw[q];rfl);obtain rfl:=qJ hi;revert F;show Ov.st (if i=3/\x.length=1 then _ else _) σ≠_->Yi _ _ _ (kq P fr env W σ s<|Ov.st (if i=3/\x.length=1 then _ else _) σ) nu _;intro F;split at F;.rename_i h;rw[d9 h];obtain⟨rfl,h1⟩:=h;obtain⟨t,rfl,hz,J⟩:=T.T;obtain⟨u,rfl⟩:=S.U;refine SB.mul ⟨by decide,λz z=>by rw[h1];decide,λz z=>by rw[h1];decide⟩ λt' k=>?_;rw[(by refine bk iu<|bk (by rw[h1];decide) ?_;show(⟨#[]++x.cps++x.cps++x.cps⟩:Yg)=⟨x.cps++x.cps++x.cps⟩;rw[Array.empty_append]:Txt.mul x 3=x++x++x)];exact qL Y7 (kc.toks I L _)<|.d6 _ _ (by rw[(by show(x.cps++x.cps++x.cps).size=3;have:x.cps.size=1:=h1;exact zJ5 nQ<|zJ5 nQ<|zJ5 this Y7:(x++x++x).length=3)];decide)<|kX (kX J J) J
 .exact g9 Y7 F
theorem PY(I:lb P fr W σ.h s)(L:lm P env W σ s.heap){op:Operator}{a b:V}{T U:n4}(S:VR W σ.n a T)(O:VR W σ.n b U)(u:(Ay σ.h op a b).st σ≠.b):Yi P.M A (binaryOp op T U) (kq P fr env W σ s<|(Ay σ.h op a b).st σ) nu s:=by cases op with
 |Add=>exact PW I L S O u|Sub=>refine bw (FL u) λx y F J=>?_;subst F;subst J;obtain⟨_,rfl⟩:=S.U;obtain⟨_,rfl⟩:=O.U;exact PySem.P.sub_int<|qL Y7 (kc.toks I L _)<|.cr ..|Mult=>exact by obtain⟨x,X⟩:=qP<|show(kt a).elim Ov.a (λx=>Be x b)≠.a fromλq=>u (by show((kt a).elim Ov.a<|λx=>Be x b).st σ=.b;erw[q];rfl);obtain rfl:=qI X;exact PX I L S O u|FloorDiv=>
  refine bw (FL u) λx y F J=>?_;subst F;subst J;revert u;show(if 0<y/\y<1000 then _ else Ov.a).st σ≠.b->Yi _ _ _ (kq P fr env W σ s<|(if 0<y/\y<1000 then _ else Ov.a).st σ) nu _;obtain⟨_,rfl⟩:=S.U;obtain⟨_,rfl⟩:=O.U;intro u;split at u;.rename_i N;rw[d9 N];exact floordiv_int (Int.ne_of_gt N.1)<|qL Y7 (kc.toks I L _)<|.cr ..
  .exact g9 Y7 u|Mod=>
  refine bw (FL u) λx y F J=>?_;subst F;subst J;revert u;show(if y=0 then Ov.a else _).st σ≠.b->Yi _ _ _ (kq P fr env W σ s<|(if y=0 then Ov.a else _).st σ) nu _;obtain⟨_,rfl⟩:=S.U;obtain⟨_,rfl⟩:=O.U;intro u;split at u;.exact g9 Y7 u
  .rename_i N;rw[d8 N];exact mod_int' N<|qL Y7 (kc.toks I L _)<|.cr ..|_=>exact g9 Y7 u
set_option tactic.hygienic false
inductive wo{α β:Type}(R:α->β->Prop):Yb α->Yb β->Prop|d:wo R [] []|c{a b l m}:R a b->wo R l m->wo R (a::l) (b::m)
theorem yA{α β:Type}{f:α->Yd β}:∀{l:Yb α}{r:Yb β},l.mapM f=Y6 r->wo (λa b=>f a=Y6 b) l r:=by intro J;induction J with|nil=>intro r h;simp at h;subst h;exact .d|cons a l F=>intro r h;rw[mV]at h;refine jh h λb I h=>am (ji h) λbs u h=>?_;obtain rfl:=c0 h;exact .c I<|F u
theorem wX{h:pJ}{W:Wd}{n m:Y9}{f:V->Yd ZW}(J:∀v c d,VR W n v c->f v=Y6 d->∃as,Reads h c d as/\d.canLay0/\d.depth<=m){xs:Yb V}{cs:Lv}{u:Yb ZW}(hv:ll W n xs cs):wo (λa b=>f a=Y6 b) xs u->∃as,ReadsAll h cs u as/\PyData.canLayAll0 u/\rG u<=m:=by
 refine hv.ind (C:=λxs cs=>∀u,wo (λa b=>f a=Y6 b) xs u->∃as,ReadsAll h cs u as/\PyData.canLayAll0 u=Ye/\rG u<=m) ?_ ?_ u;.intro u q;cases q;exact⟨[],.nil,Y7,v8 _⟩
 .intro x c xs cs a b I u q;cases q with|c e r=>refine bo (J _ _ _ a e) λas h1 h2 h3=>bo (I _ r) λbs N F L=>⟨_,.cons h1 N,?_,Nat.max_le.mpr ⟨h3,L⟩⟩;show(_&&_)=Ye;refine zJ5 h2<|zJ5 F ?_;rfl
theorem yD(I:lb P fr W σ.h s):∀(m:Y9)(v:V)(c:n4)(d:ZW),VR W σ.n v c->qg σ.h m v=Y6 d->∃as,Reads s.heap c d as/\d.canLay0/\d.depth<=m:=by intro m;induction m with|zero=>intro v c d hv e;cases e|succ m O=>intro v c d hv e;obtain hv:=hv.Z;cases v with|none=>obtain rfl:=hv;obtain rfl:=c0 e;exact⟨_,.none,Y7,v8 _⟩|j b=>obtain rfl:=hv;obtain rfl:=c0 e;exact⟨_,.bool b,Y7,v8 _⟩|d i=>refine bn hv λt u=>?_;subst u;obtain rfl:=c0 e;exact⟨_,.int i t,Y7,v8 _⟩|f x=>refine bo hv λt u q o=>?_;subst u;obtain rfl:=c0 e;exact⟨_,.str x t,o,v8 _⟩|h=>refine ed hv λq q q q u a b N z r q=>?_;subst u;refine jk e λS h1 u=>?_;subst u;exact bo (wX O r<|yA h1) λas L F J=>⟨_,.list (I.g _ _ a).1 b N L,F,m9 J⟩|n=>refine dh hv λq q q q u a b N z r=>?_;subst u;refine jk e λS h1 u=>?_;subst u;exact bo (wX O r<|yA h1) λas L F J=>⟨_,.tuple (I.g _ _ a).1 b N L,F,m9 J⟩|g=>obtain⟨rfl,hk⟩:=hv;refine jh e λys X e=>am (jl e) λS h1 u=>?_;subst u;refine bC λT=>?_;obtain⟨_,Y,hg,U⟩:=I.o _ _<|FD X;refine T ?_;refine bp U.I λq q u r z=>?_;subst u;exact bo (wX O r<|yA h1) λas L F J=>⟨_,.list hg Y7 Y7 L,F,m9 J⟩|_=>exact lz e
theorem PZ{o:Yd Yj}(h:(Az o).st σ≠.b):∃b,o=Y6 b:=by cases o with|none=>exact g9 Y7 h|some b=>exact⟨b,Y7⟩
theorem FM{o:Yd Yj}{b:Yj}(h:o.map (!·)=Y6 b):o=Y6 !b:=by cases o with|none=>cases h|some c=>obtain rfl:=c0 h;simp
theorem J2{H:Hp}{a b:V}{r:Yj}(h:FE H a b=Y6 r):∃x y,qg H 8 a=Y6 x/\qg H 8 b=Y6 y/\r=fB x y:=by refine jh h λx h1 h2=>am (jl h2) λy h3 u=>?_;subst u;exact⟨x,y,h1,h3,Y7⟩
theorem FN{f:Yh->Yh->Yj}{a b:V}{r:Yj}(h:D3 f a b=Y6 r):∃x y,a=.d x/\b=.d y/\r=f x y:=am (ji h) λx e1 h=>am (jl h) λy e2 h=>⟨x,y,qJ e1,qJ e2,h.symm⟩
theorem J3{a b:V}{r:Yj}:FH a b=Y6 r->b=.none/\FG a=Y6 r:=by cases b<;>intro h<;>first|exact⟨Y7,h⟩|exact lz h
theorem J4{W:Wd}{n:Y9}{a:V}{u:n4}{r:Yj}(F:VR W n a u):FG a=Y6 r->plainIs u .none/\(u==.none)=r:=by have hv:=F.Z;clear F;cases a<;>intro h<;>first|exact lz h|(obtain rfl:=hv;exact⟨Y7,c0 h⟩)|(obtain⟨_,rfl⟩:=hv;exact⟨Y7,c0 h⟩)|(obtain⟨_,_,_,_,rfl,_⟩:=hv;exact⟨Y7,c0 h⟩)|(obtain⟨_,_,_,_,_,_,_,_,_,rfl,_⟩:=hv;exact⟨Y7,c0 h⟩)
theorem Q0{lv:Y9}(F:Fm P lv fr A env)(I:lb P fr W σ.h s)(L:lm P env W σ s.heap){op:CmpOp}{a b:V}{Y Z:n4}(T:VR W σ.n a Y)(O:VR W σ.n b Z){r:Yj}(J:IY σ.h op a b=Y6 r){Q:Pv}{E:Pv}(N:Q (.bool r) s):Yi P.M A (compareOp op Y Z) Q E s:=by
 obtain U:=F.g;have two:∀{x y:ZW},qg σ.h 8 a=Y6 x->qg σ.h 8 b=Y6 y->∃as bs,Reads s.heap Y x as/\Reads s.heap Z y bs/\x.canLay0=Ye/\y.canLay0=Ye/\A.units+Ze x.depth y.depth<cLine:=by intro x y h1 h2;exact bo (yD I 8 a Y x T h1) λas r1 r2 r3=>bo (yD I 8 b Z y O h2) λbs g1 g2 g3=>⟨as,bs,r1,g1,r2,g2,r5 (dS (m7 _<|20*lv)<|g8 (mL _ _)<|g8 r3 iu) U⟩
 have inn:∀{r:Yj},inB σ.h a b=Y6 r->(Q (.bool r) s->Yi P.M A (compareOp .In Y Z) Q E s)/\(Q (.bool !r) s->Yi P.M A (compareOp .NotIn Y Z) Q E s):=λ{r}J=>by obtain J:(kt b).elim (IX σ.h a b) (λx=>(kt a).map λy=>u9 x y)=Y6 r:=J;clear two N;cases hx:kt b with|some x=>replace J:=hx▸J;refine jk J λy h1 u=>?_;subst u;obtain rfl:=qI hx;obtain rfl:=qI h1;refine am T.T λq u q=>?_;subst u;refine am O.T λq u q=>?_;subst u;exact⟨PySem.P.in_str,PySem.P.notIn_str⟩|none=>rw[hx]at J;refine jh J λx h1 h2=>am (ji h2) λys h3 h4=>am (jl h4) λl h5 u=>?_;subst u;refine bo (yD I 8 a Y x T h1) λas r1 r2 r3=>?_;refine bC λn0=>?_;obtain⟨k,items,rfl,⟨o,ho,hc,n,hd⟩,hv,hz⟩:=xK I O h3;refine n0 ?_;have:=fR (rG l) x.depth;exact bo (wX (yD I 7) hv<|yA h5) λbs g1 g2 g3=>⟨SeqAt.in_list_reads (.list ho hc hd g1) r1 g2 r2<|eh U r3,SeqAt.notIn_list_reads (.list ho hc hd g1) r1 g2 r2<|eh U r3⟩
 cases op with|Eq=>refine bp (J2 J) λx y h1 h2 u=>?_;subst u;exact dg (two h1 h2) λas bs q1 q2 q3 q4 q5=>SeqAt.compareEq_reads q1 q2 q3 q4 q5 N|NotEq=>exact bp (J2<|FM J) λx y h1 h2 h3=>dg (two h1 h2) λas bs q1 q2 q3 q4 q5=>SeqAt.compareNe_reads q1 q2 q3 q4 q5<|by rw[<-h3,sI];exact N|Lt=>refine bp (FN J) λx y u X S=>?_;subst u;subst X;subst S;obtain⟨_,rfl⟩:=T.U;obtain⟨_,rfl⟩:=O.U;exact PySem.P.lt_int N|Gt=>refine bp (FN J) λx y u X S=>?_;subst u;subst X;subst S;obtain⟨_,rfl⟩:=T.U;obtain⟨_,rfl⟩:=O.U;exact PySem.P.gt_int N|GtE=>refine bp (FN J) λx y u X S=>?_;subst u;subst X;subst S;obtain⟨_,rfl⟩:=T.U;obtain⟨_,rfl⟩:=O.U;exact PySem.P.ge_int N|In=>exact(inn J).1 N|Is=>obtain⟨rfl,h⟩:=J3 J;cases O;obtain⟨h1,h2⟩:=J4 T h;exact wpAny_is_plain h1<|by rw[h2];exact N|IsNot=>obtain⟨rfl,h⟩:=J3<|FM J;cases O;obtain⟨h1,h2⟩:=J4 T h;exact wpAny_isNot_plain h1<|by rw[h2,sI];exact N|NotIn=>exact(inn<|FM J).2<|by rw[sI];exact N|_=>cases J
theorem J5{lv:Y9}(F:Fm P lv fr A env)(I:lb P fr W σ.h s)(L:lm P env W σ s.heap){op:CmpOp}{a b:V}{J u:n4}(S:VR W σ.n a J)(T:VR W σ.n b u)(N:(wM σ.h op a b).st σ≠.b):Yi P.M A (compareOp op J u) (kq P fr env W σ s<|(wM σ.h op a b).st σ) nu s:=by refine bn (PZ N) λr O=>?_;rw[(by unfold wM;rw[O];rfl:wM σ.h op a b=.b (.j r))];exact Q0 F I L S T O<|qL Y7 (kc.cB I L)<|.jt _
theorem Q1(I:lb P fr W σ.h s)(L:lm P env W σ s.heap){a:V}{u:n4}(J:VR W σ.n a u)(F:(xl a).st σ≠.b):Yi P.M A (unaryOp .USub u) (kq P fr env W σ s<|(xl a).st σ) nu s:=by obtain⟨i,e⟩:=qP (o:=qV a) (f:=λa=>Ov.b<|.d<|-a) (b:=.a) λq=>F<|i6 (Ov.st · σ) q;obtain rfl:=qJ e;obtain⟨_,rfl⟩:=J.U;exact PySem.P.neg_int<|qL Y7 (kc.toks I L _)<|.cr ..
theorem xT{u:YJ}(h:D0 u=Yc)(o i:n4):subscripted u Yc o i=operate [o,i] (getItem o i):=by cases u<;>first|rfl|exact su h
theorem Q2{k:Yh}{n j:Y9}(h:YL k n=Y6 j):0<=k/\k<n/\k.toNat=j\/k<0/\0<=k+n/\(k+n).toNat=j:=by
 obtain at_:∀i:Yh,(if(Yk (0<=i)&&Yk (i<n))=Ye then Y6 i.toNat else Y8)=Y6 j->0<=i/\i<n/\i.toNat=j:=λi h=>by
  by_cases q:(Yk (0<=i)&&Yk (i<n))=Ye;.obtain h:=bi q h;obtain q':=YE.mp q;exact⟨k9 q'.1,k9 q'.2,c0 h⟩
  .replace h:=bc q h;cases h
 by_cases u:k<0;.exact bq (at_ (k+n)<|by refine pd (d9 u:(if k<0 then k+n else k)=k+n) ?_;exact h) λa z b=>.inr ⟨u,a,b⟩
 .exact .inl<|at_ k<|by refine pd (d8 u:(if k<0 then k+n else k)=k) ?_;exact h
theorem Q3{E:Pv}{l:YF}{items:Yp n4}{k:Yh}{t:b_}{j:Y9}{x:n4}{Q:Pv}(I:s.heap.IsList l items)(u:ow k)(hj:YL k items.size=Y6 j)(J:items[j]?=Y6 x)(h:Q x s):Yi P.M A (getItem (.ref l)<|.int k t) Q E s:=by
 unfold ow at u;simp only[j0,t4]at u;rcases Q2 hj with⟨F,h1,e⟩|⟨F,h1,e⟩;.exact wpAny_getItem_list I F u.2 (by erw[e];exact J) h
 .exact wpAny_getItem_list_neg I F (Int.add_nonneg_iff_neg_le.mp h1) u.1 (by erw[e];exact J) h
theorem FO(I:lb P fr W σ.h s){ys:Yb V}{c:n4}(h:VR W σ.n (.n ys) c):∃t o items e,c=.ref t/\s.heap.get? t=Y6 o/\o.cls=.type "tuple"/\o.data=.seq items e/\ll W σ.n ys items.toList:=by refine dh h.Z λq q q q u a b d z r=>?_;subst u;exact⟨_,_,_,_,Y7,(I.g _ _ a).1,b,d,r⟩
theorem Q4{a i:V}(I:lb P fr W σ.h s)(L:lm P env W σ s.heap){ca ci:n4}(ha:VR W σ.n a ca)(hi:VR W σ.n i ci)(X:(qw σ.h a i).st σ≠.b){U sl:YJ}(T:D0 sl=Yc):Yi P.M A (subscriptTail U sl ca ci) (kq P fr env W σ s<|(qw σ.h a i).st σ) nu s:=by
 obtain hne':qw σ.h a i≠.a:=λq=>X (by rw[q];rfl);clear X;refine bn (qP hne') λk ei=>?_;obtain rfl:=qJ ei;refine bn hi.U λu J=>?_;subst J;by_cases O:ow k=Ye;.cases es:kt a with|some x=>obtain rfl:=qI es;obtain he:qw σ.h (.f x) (.d k)=((YL k x.length).bind (x.cps[·]?)).elim .a λc=>.b<|.f ⟨#[c]⟩:=d9 O;rw[he]at hne'|-;refine bn (qP hne') λc hc=>?_;rw[hc];refine bo ha.T λt J hz a6=>?_;subst J;exact sT (eS s x t) t_.lookup (am (ji hc) λj h1 h2=>PySem.P.getItem_str (by unfold ow at O;rw[j0,t4,t4]at O;rw[iM,mM,mM];exact⟨F_.mpr O.1,Int.not_le.mpr O.2⟩) hc<|qL Y7 (kc.toks I L _)<|.d6 _ _ (by show 1<=k8;decide)<|by have:=Zj.mp a6 c<|Array.mem_of_getElem? h2;show(#[c]:Yp Y9).all _=Ye;simpa using this)<|xT T _ _|none=>
   rw[(by refine(d9 O).trans ?_;rw[es]:qw σ.h a (.d k)=(FI σ.h a).elim .a λxs=>((YL k xs.length).bind (xs[·]?)).elim .a .b)]at hne'|-;refine bn (qP hne') λxs Y=>?_;rw[Y]at hne'|-;refine bn (qP<|show((YL k xs.length).bind (xs[·]?)).elim Ov.a Ov.b≠.a from hne') λv hv=>?_;rw[(by show((YL k xs.length).bind (xs[·]?)).elim Ov.a Ov.b=_;rw[hv];rfl:(Y6 xs).elim Ov.a (λxs=>((YL k xs.length).bind (xs[·]?)).elim .a .b)=.b v)];by_cases ht:∃ys,a=.n ys;.refine bn ht λys J=>?_;subst J;clear ht hne';obtain rfl:=c0 Y;refine df (FO I ha) λt o items e J h1 h2 h3 h4=>?_;subst J;have N:=h4.N;rw[n8]at N;refine jh hv λj h5 h6=>am (h4.d6 h6) λc g1 Z=>?_;have S:=O;unfold ow at S;rw[j0,t4,t4]at S;exact sT ⟨o,h1,h2⟩ PySem.F.slot_tuple_getitem.lookup (PyProof.Rows.getItem_tuple ⟨o,h1,h2,e,h3⟩ S.1 S.2 (by rw[N];exact h5) (by rw[<-dP];exact g1)<|qL Y7 (kc.cB I L) Z)<|xT T _ _
   refine cm (xK I ha<|by rw[<-Y];cases a<;>first|rfl|exact g9 ⟨_,Y7⟩ ht) λl items J hl hr hz=>?_;subst J;obtain N:=hr.N;rw[n8]at N;refine sT hl.typeIs slot_list_getitem.lookup (am (ji hv) λj h1 h2=>am (hr.d6 h2) λc g1 Z=>?_)<|xT T _ _;exact Q3 hl O (by rw[N];exact h1) (by rw[<-dP];exact g1)<|qL Y7 (kc.cB I L) Z
 .exact g9 (d8 O) hne'
theorem xV{H:Hp}{a:V}{i:Yh}{xs:Yb V}{j:Y9}{v:V}(hs:kt a=Y8)(h:lj H a=Y6 xs)(F:ow i)(I:YL i xs.length=Y6 j)(u:xs[j]?=Y6 v):qw H a (.d i)=.b v:=by refine(d9 F).trans ?_;erw[hs];refine zJ5 (by clear hs F I u;cases a<;>first|rfl|(cases h;done):FI H a=lj H a)<|zJ5 h ?_;show((YL i xs.length).bind (xs[·]?)).elim Ov.a Ov.b=_;erw[I];show xs[j]?.elim Ov.a Ov.b=_;erw[u];rfl
theorem FP{H:Hp}{x:Yg}{i:Yh}{j c:Y9}(F:ow i)(I:YL i x.length=Y6 j)(u:x.cps[j]?=Y6 c):qw H (.f x) (.d i)=.b (.f ⟨#[c]⟩):=by refine(d9 F).trans ?_;erw[I];show x.cps[j]?.elim Ov.a _=_;erw[u];rfl
theorem J6{W:Wd}{n:Y9}{v:V}{c:n4}{p:Yd Yh}(hv:VR W n v c)(e:D4 v=Y6 p):∃q:Yd<|Int×b_,c=partValue q/\p=q.map (·.1)/\IsPart c p:=by obtain hv:=hv.Z;cases v with|none=>obtain rfl:=hv;obtain rfl:=c0 e;exact⟨Y8,Y7,Y7,.none⟩|d i=>obtain⟨t,rfl⟩:=hv;obtain rfl:=c0 e;exact⟨Y6 (i,t),Y7,Y7,.int i t⟩|_=>exact lz e
theorem ll.ju{W:Wd}{n:Y9}{xs:Yb V}{cs:Lv}(h:ll W n xs cs)(l u:Yd Yh):ll W n (Mine.Lake.qh xs l u)<|Mine.Lake.qh cs l u:=by unfold Mine.Lake.qh;erw[h.N];exact(h.ee _).d7 _
theorem Q5(n:Y9)(i:Yh):Z5 n i<=n:=by have:=clipAt_cast n i;exact gc this
set_option tactic.hygienic true in theorem Q6(x:Str)(l u:Option Int):Txt.slice x l u=⟨(qh x.cps.toList l u).toArray⟩:=by
 have h1:lH l u 1 x.length=sliceRange ((l.elim 0<|clipAt x.length:Y9):Yh) ((u.elim x.length<|clipAt x.length:Y9):Yh) 1:=by unfold lH;cases l<;>cases u<;>simp[clipAt_cast]
 have e:(lH l u 1 x.length).filterMap (x.cps[·]?)=qh x.cps.toList l u:=by rw[h1,sliceRange_one,pick_run];unfold qh;rfl
 unfold Txt.slice;split
 .rename_i h;have I:=ZC.mp h;obtain h3:qh x.cps.toList l u=x.cps.toList:=by
   have hs:(qh x.cps.toList l u).Sublist x.cps.toList:=(mQ _ _).trans<|hH _ _;refine hs.eq_of_length ?_;have F:u.elim x.length (Z5 x.length)-l.elim 0 (Z5 x.length)=x.length:=by rw[h1,sliceRange_one]at I;simpa using I
   have L:u.elim x.length (Z5 x.length)<=x.length:=by cases u with|none=>exact j7 _|some i=>exact Q5 _ _
   have J:x.cps.toList.length=x.length:=n8;unfold qh;rw[J,dF,r9,J,F];exact w7<|g8 (eJ F.symm)<|Nat.sub_le_sub_right L _
  rw[h3]
 .rw[e]
set_option tactic.hygienic true in theorem Q7(I:lb P fr W σ.h s)(L:lm P env W σ s.heap){a l u:V}{ca cl Z:n4}(ha:VR W σ.n a ca)(hl:VR W σ.n l cl)(hu:VR W σ.n u Z)(Y:(yO σ.h a l u).st σ≠.b){value lo hi p}:wpAny P.M A (subscriptTail value (.Slice lo hi Option.none p) ca<|.ref s.heap.objs.size) (kq P fr env W σ s<|(yO σ.h a l u).st σ) nu {s with heap:=s.heap.push {cls:=.type "slice",data:=.fields #[cl,Z,.none]}}:=by have J:kc P fr env W σ s W σ {s with heap:=s.heap.push {cls:=.type "slice",data:=.fields #[cl,Z,.none]}}:=kc.jt I L _ rfl rfl rfl;have O:yO σ.h a l u≠.a:=λq=>Y (by erw[q];rfl);clear Y;refine bn (qP O) λl' e1=>bo (J6 hl e1) λS N U i1=>?_;subst N;subst U;refine bn (qP<|show(D4 u).elim Ov.a _≠.a fromλq=>O<|by unfold yO;erw[e1];exact q) λu' e2=>bo (J6 hu e2) λT N U i2=>?_;subst N;subst U;cases hs:kt a with
 |some x=>
  erw[(by unfold yO;rw[e1,e2,hs];rfl:yO σ.h a l u=.b (.f ⟨(qh x.cps.toList (S.map (·.1))<|T.map (·.1)).toArray⟩))];obtain rfl:=qI hs;refine bo ha.T λt N hz X=>?_;subst N;refine sT (eS _ x t) t_.lookup (wpAny_getItem_str_slice (l:=S) (u:=T) (st:=Y8) ⟨_,eX _ Y7,Y7,Y7⟩ Y7 ?_) Y7;obtain hle:(⟨(qh x.cps.toList (S.map (·.1))<|T.map (·.1)).toArray⟩:Yg).length<=k8:=by show(S_ _).size<=_;refine ?_;exact g8 ((mQ _ _).trans<|hH _ _).length_le<|n8▸hz
  obtain e:=Q6 x (S.map (·.1))<|T.map (·.1);unfold Txt.slice at e;unfold sliceMade slicePicked;simp only[Option.map_none,Option.getD_none];split;.rename_i h;rw[d9 h]at e;exact kq.F J<|qL Y7 (kc.cB J.f J.l)<|by refine e▸?_;exact .d6 _ _ hz X
  .rename_i h;rw[d8 h]at e;erw[e];exact⟨hle,kq.F J<|qL Y7 (kc.toks J.f J.l _)<|.d6 _ _ hle<|by show((qh x.cps.toList _ _).toArray).all (·<0x110000)=Ye;rw[Zj];intro c hc;simpa using(by intro c hc;have:=Zj.mp X c (by simpa using hc);simpa using this:∀c∈x.cps.toList,c<0x110000) c<|((mQ _ _).trans<|hH _ _).subset (by simpa using hc:c∈qh x.cps.toList _ _)⟩|none=>rw[(by unfold yO;rw[e1,e2,hs];rfl:yO σ.h a l u=(lj σ.h a).elim .a λxs=>.b<|.h<|qh xs (S.map (·.1))<|T.map (·.1))]at O⊢;refine bn (qP O) λxs hx=>?_;refine hx.symm▸?_;refine cm (xK J.f ha hx) λk items N hL hr hz=>?_;subst N;refine sT hL.typeIs slot_list_getitem.lookup (wpAny_getItem_list_slice hL (Heap.IsSliceOf.new ..) i1 i2 .none iu (kq.F J ?_) hz) Y7;exact jR J.f J.l (by erw[(by rw[slicePick_plain];unfold Mine.Lake.qh;rw[n8]:(slicePick items (S.map (·.1)) (T.map (·.1)) Y8).toList=Mine.Lake.qh items.toList (S.map (·.1)) (T.map (·.1)))];exact hr.ju _ _) (g8 (slicePick_size_le items (S.map (·.1)) (T.map (·.1)) Y8) hz) Y7 Y7 Y7
end
structure qb(sc:Yt)(env:Zk):Prop where
 l:∀x,sc.names.lookup x=Y6 .local->env.kindOf x=Y6 .local
 g:∀x,sc.names.lookup x=Y6 .globalImplicit->env.kindOf x=Y6 .globalImplicit
 e:∀x,sc.names.lookup x=Y6 .cell\/sc.names.lookup x=Y6 .free->env.kindOf x=Y6 .cell\/env.kindOf x=Y6 .free
 cell:∀x,sc.names.lookup x=Y6 .cell->env.kindOf x=Y6 .cell
 b:∀x,env.kindOf x=Y6 .cell\/env.kindOf x=Y6 .free->∃a,env.cells.lookup x=Y6 a
def oz(v:V)(σ:St):Rs Yj:=match nc σ.h v with|some b=>.c b σ|Option.none=>.b
def tr(f:St->Rs V)(σ:St):Rs Yj:=(f σ).F oz
def rq(f:St->Rs V)(σ:St):Rs<|List V:=(f σ).F λv σ'=>jL v σ' λxs σ'=>.c xs σ'
def zl(M:Zb)(A:cG)(u:n4)(s:j8):Prop:=∀(E:Pv)(Q:Keeper->j8->Prop),(∀k,Q k s)->Yi M A (keeperOf u) Q E s
def D6(P:mx):Prop:=∃mg F u,P.B.Ns dY mg/\mg "__builtins__"=Y6 (.ref F)/\F≠fL/\P.B.get? F=Y6 u/\u.cls=.type "module"/\u.dict=Y6 fL/\u.data=.plain
structure ui(P:mx)(cx:Cx):Prop where
 e:D6 P
 g:∀x v,cx.p x=Y6 v->∃c mg mb,P.B.Ns dY mg/\P.B.Ns fL mb/\(mg x=Y6 c\/mg x=Y8/\mb x=Y6 c)/\∀W n,VR W n v c
 a:∀fr A env,Fm P cx.j fr A env->∀W σ s,lb P fr W σ.h s->lm P env W σ s.heap->∀f args cf cargs,VR W σ.n f cf->ll W σ.n args cargs->(cx.i f args σ.h).I σ≠.b->zl P.M A cf s/\Yi P.M A (Zm cf cargs []) (kq P fr env W σ s<|(cx.i f args σ.h).I σ) nu s
 d:∀fr A env,Fm P cx.j fr A env->∀W σ s,lb P fr W σ.h s->lm P env W σ s.heap->∀o m co vf first,VR W σ.n o co->cx.k o m σ.h=Y6 (vf,first)->∀(pl:s_ Yj)(E:Pv)(Q:n4×Lv->j8->Prop),(∀r s' W',kc P fr env W σ s W' σ s'->VR W' σ.n vf r.1->ll W' σ.n first r.2->Q r s')->Yi P.M A (ZP co m pl) Q E s
 b:∀fr A env,Fm P cx.j fr A env->∀W σ s,lb P fr W σ.h s->lm P env W σ s.heap->∀o f co,VR W σ.n o co->(cx.m o f σ.h).st σ≠.b->Yi P.M A (getAttr co f Ye) (kq P fr env W σ s<|(cx.m o f σ.h).st σ) nu s
section
variable{P:mx}{fr:Ln}{A:cG}{env:Zk}{W:Wd}{σ:St}{s:j8}{cx:Cx}{W':Wd}{σ':St}{s' s'':j8}
theorem Q8{M:Zb}{E:Pv}{f:n4}{u:Yb<|Bool×s_ n4}{Q:Args->j8->Prop}(hs:u.any (·.1)=Yc)(h:Yi M A (spliced u) (λvs s'=>Q ⟨vs,[]⟩ s') E s):Yi M A (evalArgs f Ye u []) Q E s:=by cases u with|nil=>refine g7<|m8 h (λvs s' F=>g7<|j6<|v7 ?_) λq q x=>x;exact g7<|j6<|g7<|j6<|j6 F|cons x r=>
  obtain⟨b,t⟩:=x;obtain hb:b=Yc:=by simp at hs;exact hs.1
  subst hb;exact Calls.evalArgs_plain h
theorem kY{M:Zb}{E:Pv}{pos:ZR}{f:n4}{first:Lv}{u:Yb<|Bool×s_ n4}{Q:Pv}(hs:u.any (·.1)=Yc)(h:Yi M A (spliced u) (λvs a9=>zl M A f a9/\Yi M A (Zm f (first++vs) []) Q E a9) E s):Yi M A (callWith pos f first u []) Q E s:=by unfold callWith;refine g7<|v7<|Q8 hs<|m8 h (λvs a9 F=>g7<|fP ?_) λq q x=>x;refine zJ5 hs<|zJ5 (show(Yc||([]:Yb<|Option Yg×s_ n4).any (λx=>x.1.isNone))=Yc from Y7) ?_;have tail:∀{t:s_ n4},Yi M A t Q E a9->Yi M A (t>>=λr=>holding [r] point>>=λq=>Zg r) Q E a9:=λI=>g7<|m8 I (λr L J=>g7<|v7<|wpAny_point<|j6 J) λq q x=>x;refine g7<|F.1 _ _ λk=>?_;cases k with
 |frame=>
  dsimp only;split;.exact tail F.2
  .exact tail<|by unfold callMarked;exact Calls.wpAny_keep F.2|boundFrame=>
  dsimp only;split;.exact tail F.2
  .exact tail<|by unfold callMarked;exact Calls.wpAny_keep F.2|machine=>exact tail F.2|caller=>exact tail<|wpAny_operating F.2
def Q9(P:mx)(cx:Cx)(x:X)(fr:Ln)(A:cG)(env:Zk):Ph->Prop|.e ex=>q7 P fr A env (Z7 ex env) (ev cx x)/\xj P fr A env (ZJ ex env<|eval ex env) (tr<|ev cx x)|.none=>q7 P fr A env (Zg .none)<|ev cx x|.es l=>∀pos,(m_ pos<|starEach l env).any (·.1)=Yc/\(m_ pos<|starEach l env).length=l.length/\IV P fr A env (spliced<|backTo pos<|starEach l env) (rq<|ev cx x)|.b l=>l≠[]/\∀pos whole,q7 P fr A env (Z7 (.BoolOp .And l pos) env) (ev cx x)/\xj P fr A env (ZJ (.BoolOp .And l pos) env whole) (tr<|ev cx x)|.c l=>l≠[]/\∀pos whole,q7 P fr A env (Z7 (.BoolOp .Or l pos) env) (ev cx x)/\xj P fr A env (ZJ (.BoolOp .Or l pos) env whole) (tr<|ev cx x)|.cond l=>l=[]/\∀σ,ev cx x σ=.c (.j Ye) σ
def nv(P:mx)(cx:Cx)(x:X)(sc:Yt)(u:Ph):Prop:=∀fr A env,Fm P cx.j fr A env->qb sc env->Q9 P cx x fr A env u
set_option tactic.hygienic true in theorem Qa{t:Sem n4}{f:St->Rs V}{t':Sem Bool}(h:q7 P fr A env t f)(J:∀(E:Pv)(Q:Bool->j8->Prop)s,wpAny P.M A t (λv a9=>wpAny P.M A (truthy v) Q E a9) E s->wpAny P.M A t' Q E s):xj P fr A env t'<|tr f:=λW σ s I L u=>by
 refine J _ _ s<|FB h I L u λv c W' σ' s' e st hv=>?_;obtain hb:tr f σ=oz v σ':=Rs.u e;rw[hb]at u|-;unfold oz at u|-;revert u;split<;>intro u;.rename_i b F;exact ny st.f hv F λt=>⟨σ',W',Y7,st.cr<|kc.toks st.f st.l t⟩
 .exact g9 Y7 u
theorem qN{ex:YJ}{f:St->Rs V}(h:q7 P fr A env (Z7 ex env) f)(u:∀whole,ZJ ex env whole=do let v<-whole;standAt ex.pos;holding [v]<|truthy v):xj P fr A env (ZJ ex env<|eval ex env)<|tr f:=Qa h λq q q F=>isTrue_plain F<|u _
theorem wU{x:X}{v:V}{ex:YJ}(u:∀σ,ev cx x σ=.c v σ)(F:∀W σ s,lb P fr W σ.h s->lm P env W σ s.heap->∀(Q:Pv)(E:Pv),(∀c t,VR W σ.n v c->Q c {s with toks:=t})->Yi P.M A (Z7 ex env) Q E s):q7 P fr A env (Z7 ex env)<|ev cx x:=λW σ s I L q=>F W σ s I L _ _ λc t hv=>by rw[u];exact qL Y7 (kc.toks I L t) hv
theorem jH{x:Yg}(h:zD x):(x==("__debug__":Yg))=Yc/\(x==("__classdict__":Yg))=Yc:=by simp only[zD,j0,bne,fU]at h;exact h
theorem Qb{sc:Yt}{x:Yg}{p:ZR}(h:zD x&&sc.names.lookup x==Y6 .local):nv P cx (.v x) sc<|.e<|.Name x p:=by
 intro fr A env F S;simp only[j0,v1]at h;refine bC λJ=>?_;obtain⟨hd,U⟩:=jH h.1;obtain hk:=S.l x h.2;obtain key:q7 P fr A env (Z7 (.Name x p) env)<|ev cx<|.v x:=λW σ s I L u=>by obtain hev:ev cx (.v x) σ=match σ.l.lookup x with|some v=>.c v σ|Option.none=>.b:=Y7;rw[hev]at u|-;cases hv:σ.l.lookup x with|none=>rw[hv]at u;exact g9 Y7 u|some v=>refine bC λJ=>?_;obtain⟨m,O,T⟩:=L.l;obtain⟨_,c,hm,N⟩:=T x v hv;refine J ?_;exact sQ (lN L.kind hk O hm<|qL Y7 (kc.cB I L) N) hd
 refine J ?_;exact⟨key,qN key λq=>Y7⟩
theorem Qc{sc:Yt}{x:Yg}{p:ZR}(h:zD x&&(sc.names.lookup x==Y6 .cell||sc.names.lookup x==Y6 .free)):nv P cx (.F x) sc<|.e<|.Name x p:=by
 intro fr A env F S;simp only[j0,fX,v1]at h;obtain⟨hd,T⟩:=jH h.1;obtain hk:=S.e x h.2;obtain key:q7 P fr A env (Z7 (.Name x p) env)<|ev cx<|.F x:=λW σ s I L u=>by
  obtain hev:ev cx (.F x) σ=match σ.e.lookup x with
   |some k=>match σ.o k with|some<|.cell<|some v=>.c v σ|_=>.b
   |Option.none=>.b:=Y7;rw[hev]at u|-;cases J:σ.e.lookup x with|none=>rw[J]at u;exact g9 Y7 u|some k=>
   rw[J]at u;dsimp only at u|-;obtain⟨v,hv⟩:∃v,σ.o k=Y6 (.cell<|some v):=by revert u;cases σ.o k with|none=>exactλh=>g9 Y7 h|some o=>cases o with
     |cell o=>cases o with|none=>exactλh=>g9 Y7 h|some v=>exactλz=>⟨v,Y7⟩
     |_=>exactλh=>g9 Y7 h
   .erw[hv];obtain⟨p,q⟩:=L.e x k J;obtain⟨_,c,hc,d,N,O⟩:=I.o k _ hv
    .obtain hcell:s.heap.IsCell (W.c k)<|some _:=⟨_,hc,N⟩;refine sQ ?_ hd;rcases hk with hk|hk;.exact wpAny_loadName_cell L.kind hk (q<|.inl hk) hcell<|qL Y7 (kc.cB I L) O
     .refine wpAny_loadName_free L.kind hk (q<|.inr hk) hcell (qL Y7 (kc.cB I L) O) T
 exact⟨key,qN key λz=>Y7⟩
theorem hZ(I:lb P fr W σ.h s){a:YF}{m:Yg->Yd n4}(h:P.B.Ns a m):s.heap.Ns a m:=h.keeps I.f
set_option tactic.hygienic true in theorem Qd(C:ui P cx){sc:Scope}{x:Str}{p:Pos}(h:zD x&&sc.names.lookup x==some .globalImplicit):nv P cx (.g x) sc<|.e<|.Name x p:=by
 intro fr A env F S;simp only[j0,v1]at h;refine bC λO=>?_;obtain⟨hd,U⟩:=jH h.1;refine O ?_;obtain hk:=S.g x h.2;obtain key:q7 P fr A env (Z7 (.Name x p) env)<|ev cx<|.g x:=λW σ s I L u=>by
  obtain hev:ev cx (.g x) σ=match cx.p x with|some v=>.c v σ|Option.none=>.b:=Y7;rw[hev]at u|-;revert u;split<;>intro u
  .rename_i v hv;refine cj (C.g x v hv) λc mg mb J T hc N=>Calls.Name_function_global (env:=env) L.kind hk ?_ hd;rcases hc with hc|⟨hc,hb⟩;.exact Calls.loadGlobal_global (by erw[L.g];exact hZ I J) hc<|qL Y7 (kc.cB I L)<|N _ _
   .exact Calls.loadGlobal_builtin (by erw[L.g];exact hZ I J) hc (by erw[L.f];exact hZ I T) hb<|qL Y7 (kc.cB I L)<|N _ _
  .exact g9 Y7 u
 exact⟨key,qN key λq=>Y7⟩
theorem FQ{ta tb:s_ n4}{Y S:St->Rs V}{g:n4->n4->s_ n4}{k:V->V->St->Rs V}(ha:q7 P fr A env ta Y)(hb:q7 P fr A env tb S)(I:lb P fr W σ.h s)(L:lm P env W σ s.heap)(J:((Y σ).F λF a7=>(S a7).F λu a8=>k F u a8)≠.b)(hg:∀W σ s F u N O,lb P fr W σ.h s->lm P env W σ s.heap->VR W σ.n F N->VR W σ.n u O->k F u σ≠.b->Yi P.M A (g N O) (kq P fr env W σ s<|k F u σ) nu s):Yi P.M A ta (λa a9=>Yi P.M A tb (λb Z=>Yi P.M A (g a b) (kq P fr env W σ s<|(Y σ).F λF a7=>(S a7).F λu a8=>k F u a8) nu Z)
   nu a9) nu s:=by refine m8 (ha W σ s I L<|Rs.J J) (λN a9 U=>U.elim λF a7 aC aI T a1=>?_)<|λe s' h=>h.elim;rw[Rs.u aI]at J|-;refine m8 (hb aC a7 a9 T.f T.l<|Rs.J J) (λO Z U=>U.elim λu a8 aG aM X a0=>?_)<|λe s' h=>h.elim;rw[Rs.u aM]at J|-;obtain st:=T.cr X;exact m8 (hg aG a8 Z F u N O st.f st.l (a1.mono X.w.d X.w.le) a0 J) (λc s' h=>h.F st) λe s' h=>h.F st
theorem Qe{sc:Yt}{a:X}{x:YJ}{p:ZR}(J:nv P cx a sc<|.e x):nv P cx (.B a) sc<|.e<|.UnaryOp .USub x p:=λfr A env F S=>by
 obtain key:q7 P fr A env (Z7 (.UnaryOp .USub x p) env)<|ev cx<|.B a:=λW σ s I L u=>by refine wpAny_UnaryOp<|FB (J fr A env F S).1 I L u λv c W' σ' s' e st hv=>?_;obtain r:ev cx (.B a) σ=(xl v).st σ':=Rs.u e;rw[r]at u|-;exact m8 (Q1 st.f st.l hv u) (λc s' h=>h.F st) λe s' h=>h.F st
 exact⟨key,qN key λq=>Y7⟩
theorem Qf{α β:Type}{ta tb:s_ n4}{fa U:St->Rs V}{g:n4->n4->s_ α}{k:V->V->St->Rs β}{Q:α->j8->Prop}{E:Pv}(ha:q7 P fr A env ta fa)(hb:q7 P fr A env tb U)(I:lb P fr W σ.h s)(L:lm P env W σ s.heap)(N:((fa σ).F λF a7=>(U a7).F λu a8=>k F u a8)≠.b)(hg:∀O a8 J F u S T,((fa σ).F λF a7=>(U a7).F λu a8=>k F u a8)=k F u a8->kc P fr env W σ s O a8 J->VR O a8.n F S->VR O a8.n u T->Yi P.M A (g S T) Q E J):Yi P.M A ta (λa a9=>Yi P.M A tb (λb J=>Yi P.M A (g a b) Q E J) E a9) E s:=by refine m8 (ha W σ s I L<|Rs.J N) (λS a9 Y=>Y.elim λF a7 aC aI X a2=>?_)<|λe s' h=>h.elim;rw[Rs.u aI]at N hg;refine m8 (hb aC a7 a9 X.f X.l<|Rs.J N) (λT J Y=>Y.elim λu a8 O aM Z a1=>?_)<|λe s' h=>h.elim;exact hg O a8 J F u S T (Rs.u aM) (X.cr Z) (a2.mono Z.w.d Z.w.le) a1
theorem yJ{f:St->Rs V}{v:V}{σ σ':St}(e:f σ=.c v σ'):tr f σ=oz v σ':=Rs.u e
theorem D7{f:St->Rs V}{σ:St}(e:tr f σ≠.b):f σ≠.b:=Rs.J e
theorem zO{v:V}{σ:St}{b:Yj}(h:nc σ.h v=Y6 b):oz v σ=.c b σ:=by unfold oz;exact zJ5 h Y7
set_option tactic.hygienic true in theorem J7{v:V}{σ:St}(h:oz v σ≠.b):∃b,nc σ.h v=some b:=by
 unfold oz at h;split at h;.rename_i b u;exact⟨b,u⟩
 .exact g9 Y7 h
theorem AA{t:s_ Yj}{f:St->Rs V}{Q:Yj->j8->Prop}{E:Pv}(h:xj P fr A env t<|tr f)(I:lb P fr W σ.h s)(L:lm P env W σ s.heap)(J:tr f σ≠.b)(O:∀b v σ' W' s',f σ=.c v σ'->nc σ'.h v=Y6 b->kc P fr env W σ s W' σ' s'->Q b s'):Yi P.M A t Q E s:=m8 (h W σ s I L J) (λb s' N=>N.elim λσ' W' e st=>am (by cases F:f σ with|c v a7=>replace e:=(yJ F).symm.trans e;obtain⟨b',u⟩:=J7 (v:=v) (σ:=a7) (by erw[e];intro q;cases q);replace e:=(zO u).symm.trans e;injection e with e h_;subst e h_;exact⟨v,Y7,u⟩|b=>unfold tr at e;replace e:=F▸e;cases e) λv h1 h2=>O b v σ' W' s' h1 h2 st)<|λex s' h=>h.elim
set_option tactic.hygienic true in theorem Qg{sc:Scope}{a:X}{x:Expr}{p:Pos}(U:nv P cx a sc<|.e x):nv P cx (.J a) sc<|.e<|.UnaryOp .Not x p:=by
 intro fr A env F S;obtain J:=U fr A env F S;have N:∀σ,ev cx (.J a) σ=(ev cx a σ).F λY a7=>match nc a7.h Y with|some b=>.c (.j !b) a7|Option.none=>.b:=λz=>Y7;obtain tne:∀σ,ev cx (.J a) σ≠.b->tr (ev cx a) σ≠.b:=λσ h=>by rw[N]at h;cases T:ev cx a σ with
  |c v a7=>
   rw[T]at h;rw[yJ T];intro q;apply h;obtain hn:nc a7.h v=Y8:=by cases Z:nc a7.h v with|none=>rfl|some b=>rw[zO Z]at q;cases q
   show(match nc a7.h v with|some b=>Rs.c (V.j !b) a7|Option.none=>.b)=.b;rw[hn]|b=>rw[T]at h;exact g9 Y7 h
 refine⟨λW σ s I L u=>?_,λW σ s I L u=>?_⟩
 .refine wpAny_UnaryOp<|FB J.1 I L u λv c W' σ' s' e st hv=>?_;obtain r:ev cx (.J a) σ=match nc σ'.h v with|some b=>.c (.j !b) σ'|Option.none=>.b:=Rs.u e;rw[r]at u|-;revert u;split<;>intro u;.rename_i b O;exact not_of<|ny st.f hv O λt=>qL Y7 (st.cr<|kc.toks st.f st.l t)<|.jt _
  .exact g9 Y7 u
 .exact isTrue_not<|AA J.2 I L (tne σ<|D7 u) λb v σ' W' s' e O st=>⟨σ',W',by rw[yJ<|by rw[N,Rs.u e,O]];rfl,st⟩
theorem J8{g:V->St->Rs V}{r:Rs V}:(r.F g).F oz=r.F λv σ'=>(g v σ').F oz:=by cases r<;>rfl
theorem Qh{sc:Yt}{a b:X}{op:CmpOp}{l r:YJ}{p:ZR}(Y:nv P cx a sc<|.e l)(ib:nv P cx b sc<|.e r)(h3:behindInMarks op r=Yc):nv P cx (.j op a b) sc<|.e<|.Compare l [op] [r] p:=by
 intro fr A env F S;obtain Ja:=Y fr A env F S;obtain Jb:=ib fr A env F S;refine⟨λW σ s I L u=>?_,λW σ s I L u=>?_⟩;.exact wpAny_Compare1 (FQ Ja.1 Jb.1 I L u λW σ s N O Z cb I L ha T u=>J5 F I L ha T u) h3
 .refine wpAny_isTrue_Compare1 ?_ h3;have e2:tr (ev cx<|.j op a b) σ=(ev cx a σ).F λN a7=>(ev cx b a7).F λO a8=>((wM a8.h op N O).st a8).F oz:=by show((ev cx a σ).F λN a7=>(ev cx b a7).F λO a8=>(wM a8.h op N O).st a8).F _=_;rw[J8];congr 1;funext N a7;rw[J8]
  replace u:=e2▸u;erw[e2];refine Qf Ja.1 Jb.1 I L u λaG a8 aH N O Z cb e st V U=>?_;rw[e]at u|-;refine m8 (J5 F st.f st.l V U<|Rs.J u) (λc s' zq=>zq.elim λv σ' W' e' J hv=>?_)<|λe s' h=>h.elim;rw[Rs.u e']at u|-;obtain⟨bb,T⟩:=J7 u;exact ny J.f hv T λt=>⟨σ',W',zO T,(st.cr J).cr<|kc.toks J.f J.l t⟩
theorem zX{β:Type}{t:s_ n4}{f:St->Rs V}{G:Pv}{k:V->St->Rs β}{E:Pv}(J:q7 P fr A env t f)(I:lb P fr W σ.h s)(L:lm P env W σ s.heap)(u:(f σ).F k≠.b)(hg:∀v c W' σ' s',f σ=.c v σ'->kc P fr env W σ s W' σ' s'->VR W' σ'.n v c->G c s'):Yi P.M A t G E s:=m8 (J W σ s I L<|Rs.J u) (λc s' F=>F.elim λv σ' W' e st hv=>hg v c W' σ' s' e st hv)<|λe s' h=>h.elim
theorem FS{β:Type}{ta tb:s_ n4}{fa U:St->Rs V}{G:n4->Pv}{k:V->V->St->Rs β}{E:Pv}(ha:q7 P fr A env ta fa)(hb:q7 P fr A env tb U)(I:lb P fr W σ.h s)(L:lm P env W σ s.heap)(N:((fa σ).F λF a7=>(U a7).F λu a8=>k F u a8)≠.b)(hg:∀O a8 J F u S T,((fa σ).F λF a7=>(U a7).F λu a8=>k F u a8)=k F u a8->kc P fr env W σ s O a8 J->VR O a8.n F S->VR O a8.n u T->G S T J):Yi P.M A ta (λa a9=>Yi P.M A tb (λb J=>G a b J) E a9) E s:=by refine m8 (ha W σ s I L<|Rs.J N) (λS a9 Y=>Y.elim λF a7 aC aI X a2=>?_)<|λe s' h=>h.elim;rw[Rs.u aI]at N hg;refine m8 (hb aC a7 a9 X.f X.l<|Rs.J N) (λT J Y=>Y.elim λu a8 O aM Z a1=>?_)<|λe s' h=>h.elim;exact hg O a8 J F u S T (Rs.u aM) (X.cr Z) (a2.mono Z.w.d Z.w.le) a1
set_option tactic.hygienic true in theorem BQ{v:V}{σ:St}{t e:St->Rs V}(h:mv v σ t e≠.b):nc σ.h v=some true/\mv v σ t e=t σ\/nc σ.h v=some false/\mv v σ t e=e σ:=by
 unfold mv at h|-;revert h;split<;>intro h;.rename_i q;exact .inl ⟨q,Y7⟩
 .rename_i q;exact .inr ⟨q,Y7⟩
 .exact g9 Y7 h
theorem Qi{sc:Yt}{c a b:X}{t x y:YJ}{p:ZR}(ic:nv P cx c sc<|.e t)(U:nv P cx a sc<|.e x)(ib:nv P cx b sc<|.e y):nv P cx (.K c a b) sc<|.e<|.IfExp t x y p:=by
 intro fr A env F S;obtain Jc:=ic fr A env F S;obtain Ja:=U fr A env F S;obtain Jb:=ib fr A env F S;obtain hev:∀σ,ev cx (.K c a b) σ=(ev cx c σ).F λY a7=>mv Y a7 (ev cx a)<|ev cx b:=λz=>Y7;have N:∀σ,ev cx (.K c a b) σ≠.b->tr (ev cx c) σ≠.b:=λσ h=>by rw[hev]at h;cases T:ev cx c σ with|c v a7=>rw[T]at h;erw[yJ T];rcases BQ (h:mv v a7 _ _≠.b)with⟨q,_⟩|⟨q,_⟩<;>erw[zO q]<;>intro Z<;>cases Z|b=>rw[T]at h;exact g9 Y7 h
 have O:∀{bb:Yj}{v:V}{σ':St},nc σ'.h v=Y6 bb->mv v σ' (ev cx a) (ev cx b)=if bb then ev cx a σ' else ev cx b σ':=λ{bb v σ'}J=>by unfold mv;erw[J];cases bb<;>rfl
 refine⟨λW σ s I L u=>?_,λW σ s I L u=>?_⟩;.refine wpAny_IfExp<|AA Jc.2 I L (N σ u) λbb v σ' W' s' e J st=>?_;rw[hev,Rs.u e,O J]at u|-;cases bb with|true=>simp only[if_true]at u|-;exact m8 (Ja.1 W' σ' s' st.f st.l u) (λc s' h=>h.F st) λe s' h=>h.F st|false=>simp only[pE,if_false]at u|-;exact m8 (Jb.1 W' σ' s' st.f st.l u) (λc s' h=>h.F st) λe s' h=>h.F st
 .refine isTrue_IfExp<|AA Jc.2 I L (N σ<|D7 u) λbb v σ' W' s' e J st=>?_;rw[(by show(ev cx (.K c a b) σ).F oz=_;rw[hev,Rs.u e,O J]:tr (ev cx<|.K c a b) σ=(if bb then ev cx a σ' else ev cx b σ').F oz)]at u|-;cases bb with|true=>simp only[if_true]at u|-;exact m8 (Ja.2 W' σ' s' st.f st.l u) (λc s' h=>h.F st) λe s' h=>h.F st|false=>simp only[pE,if_false]at u|-;exact m8 (Jb.2 W' σ' s' st.f st.l u) (λc s' h=>h.F st) λe s' h=>h.F st
theorem J9{a b:X}{sc:Yt}{e:YJ}{es:Yb YJ}(Z:nv P cx a sc<|.e e)(V:nv P cx b sc<|.F es)(F:Fm P cx.j fr A env)(S:qb sc env)(pos:ZR)(whole:s_ n4):q7 P fr A env (Z7 (.BoolOp .And (e::es) pos) env) (ev cx<|.E a b)/\xj P fr A env (ZJ (.BoolOp .And (e::es) pos) env whole) (tr<|ev cx<|.E a b):=by
 obtain Ja:=Z fr A env F S;obtain⟨hn,Jb⟩:=(by
   rcases es with _|⟨e,_|⟨e',r⟩⟩;.exact V fr A env F S
   .obtain J:=V fr A env F S;refine⟨by simp,λpos whole=>⟨J.1,λW σ s I L u=>isTrue_and<|m8 (J.2 W σ s I L u) (λb s' h=>?_) λz z x=>x⟩⟩;cases b with|true=>exact isTrue_and_nil h|false=>exact h
   .exact V fr A env F S:es≠[]/\∀pos whole,q7 P fr A env (Z7 (.BoolOp .And es pos) env) (ev cx b)/\xj P fr A env (ZJ (.BoolOp .And es pos) env whole) (tr<|ev cx b));have O:∀σ,ev cx (.E a b) σ=(ev cx a σ).F λY a7=>mv Y a7 (ev cx b)<|λa7=>.c Y a7:=λz=>Y7;obtain tne:∀σ,ev cx (.E a b) σ≠.b->tr (ev cx a) σ≠.b:=λσ h=>by rw[O]at h;cases U:ev cx a σ with|c v a7=>rw[U]at h;rw[yJ U];rcases BQ (h:mv v a7 _ _≠.b)with⟨q,_⟩|⟨q,_⟩<;>rw[zO q]<;>intro q'<;>exact by cases q'|b=>rw[U]at h;exact g9 Y7 h
 rcases es with _|⟨aM,r⟩;.exact g9 Y7 hn
 .refine⟨λW σ s I L u=>?_,λW σ s I L u=>?_⟩
  .refine BoolOp_and<|zX Ja.1 I L u λv c W' σ' s' e st hv=>?_;rw[O,Rs.u e]at u|-;rcases BQ u with⟨q,r⟩|⟨q,r⟩;.rw[r]at u|-;refine ny st.f hv q λt=>?_;have N:=st.cr<|kc.toks st.f st.l t;exact m8 ((Jb pos whole).1 W' σ' _ N.f N.l u) (λc s' h=>h.F N) λe s' h=>h.F N
   .rw[r];refine ny st.f hv q λt=>?_;exact qL Y7 (st.cr<|kc.toks st.f st.l t) hv
  .refine isTrue_and<|AA Ja.2 I L (tne σ<|D7 u) λbb v σ' W' s' e T st=>?_;cases bb with|true=>rw[(by show(ev cx (.E a b) σ).F oz=_;rw[O,Rs.u e];unfold mv;rw[T];rfl:tr (ev cx<|.E a b) σ=tr (ev cx b) σ')]at u|-;exact m8 ((Jb pos whole).2 W' σ' s' st.f st.l u) (λc s' h=>h.F st) λe s' h=>h.F st|false=>refine⟨σ',W',?_,st⟩;rw[yJ<|by rw[O,Rs.u e];unfold mv;rw[T],zO T]
theorem Jd{a b:X}{sc:Yt}{e:YJ}{es:Yb YJ}(Z:nv P cx a sc<|.e e)(V:nv P cx b sc<|.I es)(F:Fm P cx.j fr A env)(S:qb sc env)(pos:ZR)(whole:s_ n4):q7 P fr A env (Z7 (.BoolOp .Or (e::es) pos) env) (ev cx<|.H a b)/\xj P fr A env (ZJ (.BoolOp .Or (e::es) pos) env whole) (tr<|ev cx<|.H a b):=by
 obtain Ja:=Z fr A env F S;obtain⟨hn,Jb⟩:=(by
   rcases es with _|⟨e,_|⟨e',r⟩⟩;.exact V fr A env F S
   .obtain J:=V fr A env F S;refine⟨by simp,λpos whole=>⟨J.1,λW σ s I L u=>isTrue_or<|m8 (J.2 W σ s I L u) (λb s' h=>?_) λz z x=>x⟩⟩;cases b with|true=>exact h|false=>exact isTrue_or_nil h
   .exact V fr A env F S:es≠[]/\∀pos whole,q7 P fr A env (Z7 (.BoolOp .Or es pos) env) (ev cx b)/\xj P fr A env (ZJ (.BoolOp .Or es pos) env whole) (tr<|ev cx b));have O:∀σ,ev cx (.H a b) σ=(ev cx a σ).F λY a7=>mv Y a7 (λa7=>.c Y a7)<|ev cx b:=λz=>Y7;obtain tne:∀σ,ev cx (.H a b) σ≠.b->tr (ev cx a) σ≠.b:=λσ h=>by rw[O]at h;cases U:ev cx a σ with|c v a7=>rw[U]at h;rw[yJ U];rcases BQ (h:mv v a7 _ _≠.b)with⟨q,_⟩|⟨q,_⟩<;>rw[zO q]<;>intro q'<;>exact nomatch q'|b=>rw[U]at h;exact g9 Y7 h
 rcases es with _|⟨aM,r⟩;.exact g9 Y7 hn
 .refine⟨λW σ s I L u=>?_,λW σ s I L u=>?_⟩
  .refine BoolOp_or<|zX Ja.1 I L u λv c W' σ' s' e st hv=>?_;rw[O,Rs.u e]at u|-;rcases BQ u with⟨q,r⟩|⟨q,r⟩;.rw[r];refine ny st.f hv q λt=>?_;exact qL Y7 (st.cr<|kc.toks st.f st.l t) hv
   .rw[r]at u|-;refine ny st.f hv q λt=>?_;have N:=st.cr<|kc.toks st.f st.l t;exact m8 ((Jb pos whole).1 W' σ' _ N.f N.l u) (λc s' h=>h.F N) λe s' h=>h.F N
  .refine isTrue_or<|AA Ja.2 I L (tne σ<|D7 u) λbb v σ' W' s' e T st=>?_;cases bb with|false=>rw[(by show(ev cx (.H a b) σ).F oz=_;rw[O,Rs.u e];unfold mv;rw[T];rfl:tr (ev cx<|.H a b) σ=tr (ev cx b) σ')]at u|-;exact m8 ((Jb pos whole).2 W' σ' s' st.f st.l u) (λc s' h=>h.F st) λe s' h=>h.F st|true=>refine⟨σ',W',?_,st⟩;rw[yJ<|by rw[O,Rs.u e];unfold mv;rw[T],zO T]
theorem Ji{x:X}{sc:Yt}{o:Yd YJ}(u:nv P cx x sc<|.J o)(F:Fm P cx.j fr A env)(S:qb sc env):q7 P fr A env (evalPart o env)<|ev cx x:=by cases o with|none=>exact u fr A env F S|some e=>exact(u fr A env F S).1
theorem Qj{sc:Yt}{a lo hi:X}{v:YJ}{l u:Yd YJ}{p T:ZR}(ia:nv P cx a sc<|.e v)(il:nv P cx lo sc<|.J l)(ih:nv P cx hi sc<|.J u):nv P cx (.z a lo hi) sc<|.e<|.Subscript v (.Slice l u Y8 T) p:=by
 intro fr A env F S;obtain Ja:=ia fr A env F S;obtain Jl:=Ji il F S;obtain Jh:=Ji ih F S;obtain key:q7 P fr A env (Z7 (.Subscript v (.Slice l u Y8 T) p) env)<|ev cx<|.z a lo hi:=λW σ s I L J=>by obtain hev:ev cx (.z a lo hi) σ=(ev cx a σ).F λZ a7=>(ev cx lo a7).F λV a8=>(ev cx hi a8).F λY aE=>(yO aE.h Z V Y).st aE:=Y7;rw[hev]at J|-;refine Subscript_<|zX Ja.1 I L J λZ ca aC a7 a9 aI N U=>?_;rw[Rs.u aI]at J|-;refine wpAny_Slice<|FS Jl Jh N.f N.l J λaN aE aL V Y cl ch aO O a0 a1=>?_;rw[aO]at J|-;obtain st:=N.cr O;refine j6<|m8 (Q7 st.f st.l (U.mono O.w.d O.w.le) a0 a1 J) (λc s' h=>h.F st) λe s' h=>h.F st
 exact⟨key,qN key λq=>Y7⟩
theorem Qk(C:ui P cx){sc:Yt}{o:X}{f:Yg}{e:YJ}{p:ZR}(U:nv P cx o sc<|.e e)(h2:jZ e):nv P cx (.A o f) sc<|.e<|.Attribute e f p:=by
 intro fr A env F S;obtain key:q7 P fr A env (Z7 (.Attribute e f p) env)<|ev cx<|.A o f:=λW σ s I L u=>by
  show Yi P.M A (do
   let N<-ZK e f env<|eval e env
   standAt p.atName let r<-holding [N]<|getAttr N f Ye
   letTemporaryGo e N r
   Zg r) _ _ s;rw[h2];refine g7<|zX (U fr A env F S).1 I L u λvo V Y a7 a9 T J O=>?_;obtain hev:ev cx (.A o f) σ=(cx.m vo f a7.h).st a7:=Rs.u T;rw[hev]at u|-;refine g7<|fP<|g7<|v7<|m8 (C.b fr A env F Y a7 a9 J.f J.l vo f V O u) (λc s' h=>?_) λe s' h=>h.F J;exact g7<|wpAny_letTemporaryGo<|j6<|h.F J
 exact⟨key,qN key λq=>Y7⟩
theorem Qm{e:YJ}{r:Yb YJ}(h:∀x p,e≠.Starred x p):T_ (e::r) env=(Yc,Z7 e env)::T_ r env:=by cases e<;>first|rfl|exact g9 Y7<|h _ _
theorem Qn{sc:Yt}{a b:X}{e:YJ}{r:Yb YJ}(Z:nv P cx a sc<|.e e)(ib:nv P cx b sc<|.es r)(hs:BN e=Yc):nv P cx (.d a b) sc<|.es<|e::r:=by
 intro fr A env F S;obtain Ja:=Z fr A env F S;obtain Jb:=ib fr A env F S;intro pos;refine bq (Jb pos) λq1 q2 Jb=>?_;erw[(by rw[Qm (env:=env) (r:=r)<|by rintro x p rfl;exact su hs];rfl:m_ pos (T_ (e::r) env)=(Yc,Z7 e env)::m_ pos (T_ r env))];refine⟨by simpa using q1,by simpa using q2,λW σ s I L u=>?_⟩;have Y:rq (ev cx<|.d a b) σ=(ev cx a σ).F λJ a7=>(rq (ev cx b) a7).F λvs a8=>.c (J::vs) a8:=by show((ev cx a σ).F λJ a7=>(ev cx b a7).F λvs a8=>jL vs a8 λxs a8=>Rs.c (V.h<|J::xs) a8).F _=_;cases ev cx a σ with
  |c J a7=>show((ev cx b a7).F _).F _=((ev cx b a7).F _).F _;cases ev cx b a7 with|c vs a8=>cases vs<;>rfl|b=>rfl
  |b=>rfl
 rw[Y]at u|-;refine Calls.spliced_cons<|zX Ja.1 I L u λJ ca aC a7 a9 aI N T=>?_;rw[Rs.u aI]at u|-;refine m8 (Jb aC a7 a9 N.f N.l<|Rs.J u) (λcs aH zq=>zq.elim λvs a8 aG aM O U=>?_)<|λe s' h=>h.elim;erw[Rs.u aM];exact⟨_,a8,aG,Y7,N.cr O,.S (T.mono O.w.d O.w.le) U⟩
theorem Qo{f:St->Rs V}{xs:Yb V}{σ σ':St}(h:rq f σ=.c xs σ'):f σ=.c (.h xs) σ':=by unfold rq at h;cases u:f σ with
 |c v a7=>
  obtain h:=u▸h;have F:jL v a7 (λxs σ'=>Rs.c xs σ')=.c xs σ':=h;clear h;cases v<;>first|cases F|skip
  rfl|b=>obtain h:=u▸h;cases h
theorem vX{β:Type}{t:s_<|Lv}{f:St->Rs V}{G:Lv->j8->Prop}{k:Yb V->St->Rs β}{E:Pv}(N:IV P fr A env t<|rq f)(I:lb P fr W σ.h s)(L:lm P env W σ s.heap)(u:((f σ).F λv σ'=>jL v σ' k)≠.b)(hg:∀xs cs W' σ' s',((f σ).F λv σ'=>jL v σ' k)=k xs σ'->kc P fr env W σ s W' σ' s'->ll W' σ'.n xs cs->G cs s'):Yi P.M A t G E s:=m8 (N W σ s I L<|by unfold rq;cases F:f σ with
  |c v a7=>obtain u:=F▸u;cases v<;>first|exact g9 Y7 u|(intro q;cases q)
  |b=>obtain u:=F▸u;exact g9 Y7 u) (λcs s' J=>J.elim λxs σ' W' e st hv=>hg xs cs W' σ' s' (by erw[Rs.u<|Qo e];rfl) st hv)<|λe s' h=>h.elim
set_option tactic.hygienic true in theorem BR{n:Nat}{r:Rs V}(h:pf n r≠.b):n<=k8/\pf n r=r:=by
 unfold pf at h|-;split at h;.rename_i q;exact⟨q,d9 q⟩
 .exact g9 Y7 h
theorem Qp{sc:Yt}{es:X}{l:Yb YJ}{p:ZR}(N:nv P cx es sc<|.es l):nv P cx (.r es) sc<|.e<|.List l p:=by
 intro fr A env F S;obtain key:q7 P fr A env (Z7 (.List l p) env)<|ev cx<|.r es:=λW σ s I L u=>by
  refine List_<|vX ((N fr A env F S) p).2.2 I L u λxs cs W' σ' s' e st hv=>?_;have J:ev cx (.r es) σ=pf xs.length (.c (.h xs) σ'):=e;rw[J]at u|-;obtain⟨hz,r⟩:=BR u;erw[r];obtain hz':cs.length<=k8:=by erw[hv.N];exact hz
  exact gI (kq.F st<|jR (items:=cs.toArray) st.f st.l hv hz' Y7 Y7 Y7)<|by show cs.toArray.size<=k8;refine ?_;exact hz'
 exact⟨key,qN key λq=>Y7⟩
theorem Qq{sc:Yt}{es:X}{l:Yb YJ}{J:Y9}{p:ZR}(O:nv P cx es sc<|.es l):nv P cx (.D es) sc<|.e<|.Tuple l J p:=by
 intro fr A env F S;obtain key:q7 P fr A env (Z7 (.Tuple l J p) env)<|ev cx<|.D es:=λW σ s I L u=>by
  refine Tuple_<|vX ((O fr A env F S) p).2.2 I L u λxs cs W' σ' s' e st hv=>?_;have N:ev cx (.D es) σ=pf xs.length (.c (.n xs) σ'):=e;rw[N]at u|-;obtain⟨hz,r⟩:=BR u;erw[r];obtain hz':cs.length<=k8:=by erw[hv.N];exact hz
  exact gI (kq.F st<|IZ (items:=cs.toArray) st.f st.l hv hz' Y7 Y7 Y7)<|by show cs.toArray.size<=k8;refine ?_;exact hz'
 exact⟨key,qN key λq=>Y7⟩
theorem Qr(C:ui P cx){sc:Yt}{f as:X}{n:Yg}{N p:ZR}{l:Yb YJ}(jf:nv P cx f sc<|.e<|.Name n N)(ja:nv P cx as sc<|.es l):nv P cx (.n f as) sc<|.e<|.Call (.Name n N) l [] p:=by
 intro fr A env F S;obtain Jf:=jf fr A env F S;obtain Ja:=(ja fr A env F S) p;obtain key:q7 P fr A env (Z7 (.Call (.Name n N) l [] p) env)<|ev cx<|.n f as:=λW σ s I L u=>by obtain hev:ev cx (.n f as) σ=(ev cx f σ).F λvf a7=>(ev cx as a7).F λvs a8=>jL vs a8 λxs a8=>(cx.i vf xs a8.h).I a8:=Y7;rw[hev]at u|-;refine g7<|zX Jf.1 I L u λvf Z aC a7 a9 aI J U=>?_;rw[Rs.u aI]at u|-;refine kY Ja.1<|vX Ja.2.2 J.f J.l u λxs cs aG a8 aH V O T=>?_;rw[V]at u|-;obtain st:=J.cr O;obtain⟨Y,k2⟩:=C.a fr A env F aG a8 aH st.f st.l vf xs Z cs (U.mono O.w.d O.w.le) T u;exact⟨Y,m8 k2 (λc s' h=>h.F st) λe s' h=>h.F st⟩
 exact⟨key,qN key λq=>Y7⟩
theorem Qt(C:ui P cx){sc:Yt}{o as:X}{m:Yg}{e:YJ}{J p:ZR}{l:Yb YJ}(jo:nv P cx o sc<|.e e)(ja:nv P cx as sc<|.es l)(h3:jZ e)(T:Yk (l.length<30)&&J.endLine==p.line):nv P cx (.m o m as) sc<|.e<|.Call (.Attribute e m J) l [] p:=by
 intro fr A env F S;simp only[j0,t4,v1]at T;obtain⟨h4,h5⟩:=T;obtain Jo:=jo fr A env F S;obtain Ja:=(ja fr A env F S) p;obtain key:q7 P fr A env (Z7 (.Call (.Attribute e m J) l [] p) env)<|ev cx<|.m o m as:=λW σ s I L u=>by
  obtain hev:ev cx (.m o m as) σ=(ev cx o σ).F λvo a7=>match cx.k vo m a7.h with|some (vf,first)=>(ev cx as a7).F λvs a8=>jL vs a8 λxs a8=>(cx.i vf (first++xs) a8.h).I a8|Option.none=>.b:=Y7;rw[hev]at u|-;obtain hform:methodCallForm (l.length+([]:Yb Keyword).length) (m_ p<|starEach l env) (backToKw p<|keywordEach [] env)=Ye:=by
   unfold methodCallForm;obtain q:(m_ p<|starEach l env).all (λx=>!x.1)=Ye:=by rw[lK];intro x hx;have:=List.any_eq_false.mp Ja.1 x hx;simpa using this
   erw[q];exact i7 h4
  obtain hpos:Zv Ye e env J p=Zg p:=by unfold Zv;simp[h5]
  show Yi P.M A (do
   let ov<-ZK e m env<|eval e env
   standAt J.atName
   ZU e m J p env ov (l.length+([]:Yb Keyword).length) (m_ p<|starEach l env)<|backToKw p<|keywordEach [] env) _ _ s;rw[h3];refine g7<|zX Jo.1 I L u λvo co aC a7 a9 aI U Z=>g7<|fP ?_;rw[Rs.u aI]at u|-;cases N:cx.k vo m a7.h with|none=>rw[N]at u;exact g9 Y7 u|some r0=>obtain⟨vf,first⟩:=r0;obtain u:=N▸u;dsimp only at u|-;unfold ZU;refine hform.symm▸?_;refine g7<|v7<|C.d fr A env F aC a7 a9 U.f U.l vo m co vf first Z N _ _ _ λr aH aG aB hf V=>?_;refine g7<|dX hpos ?_;obtain st:=U.cr aB;refine kY Ja.1<|vX Ja.2.2 st.f st.l u λxs cs aN aE aL aO O Y=>?_;rw[aO]at u|-;obtain st':=st.cr O;obtain⟨k1,k2⟩:=C.a fr A env F aN aE aL st'.f st'.l vf (first++xs) r.1 (r.2++cs) (hf.mono O.w.d O.w.le) ((V.mono O.w.d O.w.le).X Y) u;exact⟨k1,m8 k2 (λc s' h=>h.F st') λe s' h=>h.F st'⟩
 exact⟨key,qN key λz=>Y7⟩
theorem qi.step{I:Ln}{L:Y9}{n F:Y9}{h J:pJ}{a:Y9}{o:Yr}(x:qi P fr W n a)(e:h.get? a=Y6 o)(nx:Nx I L W n h W' F J):qi P fr W' F a where
 g:=x.g
 d:=x.d
 f:=by cases q:W'.fz a with|none=>rfl|some c=>
   rcases nx.m a c q with r|r;.rw[x.f]at r;exact lz r
   .rw[e]at r;exact Ct r
 b:=λk hk q=>by
  by_cases u:k<n;.rw[nx.d.d k u]at q;exact x.b k u q
  .have:=nx.new k (YR.mp u) hk;rw[q,e]at this;exact Ct this
theorem lb.J(I:lb P fr W σ.h s){a:Y9}(x:qi P fr W σ.n a)(hk:∀b o,b≠a->s.heap.get? b=Y6 o->s'.heap.get? b=Y6 o)(hg:s'.gens=s.gens)(u:s'.os=s.os):lb P fr W σ.h s' where
 f:=λb o e=>hk b o (by rintro rfl;replace e:=x.g.symm.trans e;exact nomatch e)<|I.f b o e
 y:=I.y
 m:=λk h=>bn (I.m k h) λo e=>⟨o,hk _ _ (x.b k h) e⟩
 l:=I.l
 w:=I.w
 inj:=I.inj
 o:=λk o e=>let⟨p,c,b,d⟩:=I.o k o e;⟨p,c,hk _ _ (x.b k p) b,d⟩
 g:=λb c e=>⟨hk _ _ (by rintro rfl;replace e:=x.f.symm.trans e;exact nomatch e) (I.g b c e).1,(I.g b c e).2⟩
 v:=λb h=>⟨(I.v b h).1,am (I.v b h).2 λo e d=>⟨o,hk _ _ (by rintro rfl;exact x.d h) e,d⟩⟩
 gens:=hg.trans I.gens
 z:=u.trans I.z
 r:=I.r
theorem kc.ds(st:kc P fr env W σ s W' σ' s')(hL:env.locals∈fr){a:Y9}(F:s.heap.get? a=Y8)(x:qi P fr W' σ'.n a)(hk:∀b o,b≠a->s'.heap.get? b=Y6 o->s''.heap.get? b=Y6 o)(hg:s''.gens=s'.gens)(O:s''.os=s'.os):kc P fr env W σ s W' σ' s'':=by refine⟨⟨st.w.d,st.w.le,λb o e=>bn (st.w.f b o e) λo' u=>⟨o',hk b o' (by rintro rfl;rw[F]at e;exact lz e) u⟩,st.w.new,st.w.m,λb o e h1 I h2=>hk b o (by rintro rfl;rw[F]at e;exact lz e)<|st.w.ext b o e h1 I h2,λb o h1 h2 e=>am (st.w.i b o h1 h2 e) λo' u L=>⟨o',hk b o' (by rintro rfl;rw[F]at e;exact lz e) u,L⟩⟩,st.f.J x hk hg O,?_⟩;.refine am st.l.l λm N S=>dv N λJ es T e1 r=>?_;exact⟨st.l.kind,st.l.g,st.l.f,⟨m,⟨J,es,T,hk _ _ (by rintro rfl;exact x.d hL) e1,r⟩,S⟩,st.l.e,st.l.d⟩
theorem lb.under(I:lb P fr W σ.h s){C:Y9}{o:Yr}(x:qi P fr W σ.n C)(e:s.heap.get? C=Y6 o)(hd:∀vs,o.data≠.fields vs):lb P (C::fr) W σ.h s where
 f:=I.f
 y:=I.y
 m:=I.m
 l:=λk h q=>by
  rcases Yn.mp q with q|q;.exact x.b k h q
  .exact I.l k h q
 w:=I.w
 inj:=I.inj
 o:=I.o
 g:=λa c h=>⟨(I.g a c h).1,λq=>by
  rcases Yn.mp q with q|q;.subst q;obtain h:=x.f.symm.trans h;exact lz h
  .exact(I.g a c h).2 q⟩
 v:=λa h=>by
  rcases Yn.mp h with q|q;.subst q;exact⟨x.g,o,e,hd⟩
  .exact I.v a q
 gens:=I.gens
 z:=I.z
 r:=I.r
theorem kc.inner{C:Y9}{I:Zk}{W'':Wd}{a7 a8:St}(st:kc P fr env W σ s W' σ' s')(hL:env.locals∈fr)(O:s.heap.get? C=Y8)(N:I.locals=C)(Y:C≠env.locals)(he:a7.h=σ'.h)(r:kc P (C::fr) I W' a7 s' W'' a8 s''):kc P fr env W σ s W'' {σ' with h:=a8.h} s'':=by
 have F:a7.n=σ'.n:=i6 Hp.n he;have hz:σ'.n<=a8.n:=F▸r.w.le;have L:tI σ'.n W' W'':=F▸r.w.d;refine⟨⟨st.w.d.J st.w.le L,g8 st.w.le hz,λb o e=>?_,λk h1 h2=>?_,λa c e=>?_,λb o e h1 S h2=>?_,λb o h1 h2 e=>?_⟩,⟨r.f.f,r.f.y,r.f.m,λk h q=>r.f.l k h<|.tail _ q,r.f.w,r.f.inj,r.f.o,λa c e=>⟨(r.f.g a c e).1,λq=>(r.f.g a c e).2<|.tail _ q⟩,λa h=>r.f.v a<|.tail _ h,r.f.gens,r.f.z,r.f.r⟩,?_⟩;.exact bn (st.w.f b o e) λo' u=>r.w.f b o' u
 .by_cases hk:k<σ'.n;.erw[L.d k hk];exact st.w.new k h1 hk
  .cases q:s.heap.get? (W''.c k)with|none=>rfl|some o=>refine bn (st.w.f _ _ q) λo' u=>?_;replace u:=(r.w.new k (by erw[F];exact YR.mp hk) h2).symm.trans u;exact nomatch u
 .rcases r.w.m a c e with q|q;.exact st.w.m a c q
  .right;cases hq:s.heap.get? a with|none=>rfl|some o=>refine bn (st.w.f _ _ hq) λo' u=>?_;replace u:=q.symm.trans u;exact nomatch u
 .have e1:=st.w.ext b o e h1 S h2;refine r.w.ext b o e1 (by erw[N];rintro rfl;obtain e:=O.symm.trans e;exact nomatch e) (λhm=>by
   rcases Yn.mp hm with q|q;.subst q;obtain e:=O.symm.trans e;exact nomatch e
   .exact S q) λk hk q=>?_;rw[F]at hk;by_cases J:k<σ.n;.obtain q:=(st.w.d.d k J).symm.trans q;exact h2 k J q
  .have:=st.w.new k (YR.mp J) hk;rw[q,e]at this;exact Ct this
 .refine am (st.w.i b o h1 h2 e) λo' u Z=>?_;exact am (r.w.i b o' (.tail _ h1) (by erw[N];rintro rfl;replace e:=O.symm.trans e;exact nomatch e) u) λU V X=>⟨U,V,X.trans Z⟩
 .refine am st.l.l λm q1 q2=>cy q1 λoL es ep e1 dd rr=>?_;exact am (r.w.i _ _ (.tail _ hL) (by erw[N];exact gP Y) e1) λT e2 d2=>⟨st.l.kind,st.l.g,st.l.f,⟨m,⟨T,es,ep,e2,d2.trans dd,rr⟩,λx v h=>let⟨p,c,q,rv⟩:=q2 x v h;⟨p,c,q,rv.mono L hz⟩⟩,λx k h=>cg (st.l.e x k h) λp q=>⟨i9 p hz,λhk=>by erw[L.d k p];exact q hk⟩,λk q h=>⟨i9 (st.l.d k q h).1 hz,by rw[L.d k (st.l.d k q h).1];exact(st.l.d k q h).2⟩⟩
inductive qj(W:Wd)(n:Y9)(h:pJ)(I:Y9):V->Y9->Prop|d{v:V}{a:Y9}{i:Y9}:VR W n v (.ref a)->(∀H,mu H v=lj H v)->h.IsListIter I a i->qj W n h I v i|g{xs:Yb V}{a:Y9}{i:Y9}:VR W n (.n xs) (.ref a)->h.IsTupleIter I a i->qj W n h I (.n xs) i|f{a b c:Yh}{i:Y9}:IsRangeIter h I (a+(i:Yh)*c) (m6 a b c-(i:Yh)) c->qj W n h I (.q a b c) i
theorem qj.mono{n F:Y9}{h L:pJ}{I:Y9}{v:V}{i:Y9}(x:qj W n h I v i)(J:tI n W W')(u:n<=F)(hk:∀o,h.get? I=Y6 o->L.get? I=Y6 o):qj W' F L I v i:=by cases x with|d a b c=>exact .d (a.mono J u) b<|am c λo e r=>⟨o,hk _ e,r⟩|g a c=>exact .g (a.mono J u)<|am c λo e r=>⟨o,hk _ e,r⟩|f a=>exact .f<|hk _ a
theorem qj.O{n:Y9}{h:pJ}{I:Y9}{v:V}{i:Y9}(x:qj W n h I v i):∃o,h.get? I=Y6 o:=by cases x with|d a b c=>exact am c λo e q=>⟨o,e⟩|g _ c=>exact am c λo e q=>⟨o,e⟩|f a=>exact⟨_,a⟩
theorem Jj{E:Pv}(I:lb P fr W σ.h s){v:V}{c:n4}{xs:Yb V}(hv:VR W σ.n v c)(e:mu σ.h v=Y6 xs){Q:Pv}(N:∀O,qj W σ.n (s.heap.push O) s.heap.objs.size v 0->Q (.ref s.heap.objs.size) {s with heap:=s.heap.push O}):Yi P.M A (pyIter c) Q E s:=by
 obtain F:lj σ.h v=Y6 xs->(∀H,mu H v=lj H v)->Yi P.M A (pyIter c) Q E s:=λh1 h2=>by refine cm (xK I hv h1) λa items u T q q=>?_;subst u;exact wpAny_pyIter_list T<|N _<|.d hv h2 ⟨_,eX _ Y7,Y7,Y7⟩
 refine bC λL=>?_;replace F:=λa b=>L<|F a b;have J:=hv.Z;clear hv;cases v with|q a b c=>refine fy J λq q q q u S hs=>?_;subst u;refine L<|wpAny_pyIter_range (I.g _ _ S).1 hs<|N _<|.f ?_;simp only[(by simp:a+((0:Y9):Yh)*c=a),(by simp:m6 a b c-((0:Y9):Yh)=m6 a b c)];exact eX _ Y7|n=>refine dh J λq q q q u h1 h2 h3 h4 h5=>?_;subst u;exact L<|wpAny_pyIter_tuple ⟨_,(I.g _ _ h1).1,h2,_,h3⟩<|N _<|.g (.jv h1 h2 h3 h4 h5) ⟨_,eX _ Y7,Y7,Y7⟩|h=>exact F e λq=>Y7|g=>exact F e λq=>Y7|_=>exact lz e
theorem Qu{E:Pv}{v:V}{n i Ia:Y9}(x:qj W n s.heap Ia v i){Q:Pv}(u:Q (.ref Ia) s):Yi P.M A (pyIter<|.ref Ia) Q E s:=by cases x with|d a b c=>exact wpAny_pyIter_listiter c u|g _ c=>exact wpAny_pyIter_tupleiter c u|f a=>exact wpAny_pyIter_rangeiter a u
theorem Jk{E:Pv}(I:lb P fr W σ.h s){v:V}{xs:Yb V}{i Ia:Y9}{x:V}(hi:qj W σ.n s.heap Ia v i)(e:mu σ.h v=Y6 xs)(J:xs[i]?=Y6 x){Q:Yd n4->j8->Prop}(N:∀c u t,VR W σ.n x c->qj W σ.n u Ia v (i+1)->mU Ia s.heap u->Q (Y6 c) {s with heap:=u,toks:=t}):Yi P.M A (pyNext<|.ref Ia) Q E s:=by cases hi with|d a b c=>refine cm (xK I a<|(b _).symm.trans e) λl items q X U hz=>?_;injection q with q;subst q;exact am (U.d6 J) λcx O L=>wpAny_pyNext_list_item c X (by refine pd dP ?_;exact O) λu F hs=>N cx u s.toks L (.d a b F) hs|g a c=>obtain rfl:=c0 e;refine df (FO I a) λt o items T q h1 h2 h3 h4=>?_;injection q with q;subst q;exact am (h4.d6 J) λcx O L=>wpAny_pyNext_tuple_item c ⟨o,h1,h2,T,h3⟩ (by refine pd dP ?_;exact O) λu F hs=>N cx u s.toks L (.g a F) hs|@f a b c _ r=>
  obtain rfl:=c0 e;replace J:=List.getElem?_map.symm.trans J;refine jk J λj h1 S=>?_;subst S;obtain h2:i<(m6 a b c).toNat:=by have:=(Yv.mp h1).1;simpa using this
  obtain h3:j=i:=by replace h1:=(List.getElem?_range h2).symm.trans h1;obtain rfl:=c0 h1;rfl
  subst h3;refine wpAny_pyNext_range_item r (by simp_all) λu F hs=>N _ u _ (.cr _ _) (.f ?_) hs;refine zJ5 (by push_cast;rw[Int.add_mul,Int.one_mul,Int.add_assoc]:a+((j+1:Y9):Yh)*c=a+(j:Yh)*c+c)<|zJ5 (by push_cast;exact lF<|Int.sub_sub _ ↑_ 1:m6 a b c-((j+1:Y9):Yh)=m6 a b c-(j:Yh)-1) ?_;exact F
theorem Jm{E:Pv}(F:A.handled=Y8)(I:lb P fr W σ.h s){v:V}{xs:Yb V}{i Ia:Y9}(hi:qj W σ.n s.heap Ia v i)(e:mu σ.h v=Y6 xs)(u:xs[i]?=Y8){Q:Yd n4->j8->Prop}(J:∀L,Heap.ExtBut Ia s.heap L->Q Y8 {s with heap:=L}):Yi P.M A (pyNext<|.ref Ia) Q E s:=by cases hi with|d a b c=>refine cm (xK I a<|(b _).symm.trans e) λl items q S O hz=>?_;injection q with q;subst q;refine wpAny_pyNext_list_end F c S ?_ J;rw[oQ];have:=O.N;rw[n8]at this;have:=Z8.mp u;lia|g a c=>obtain rfl:=c0 e;refine df (FO I a) λt o items N q h1 h2 h3 h4=>?_;injection q with q;subst q;refine wpAny_pyNext_tuple_end F c ⟨o,h1,h2,N,h3⟩ ?_ J;rw[oQ];have:=h4.N;rw[n8]at this;have:=Z8.mp u;lia|@f a b c _ r=>obtain rfl:=c0 e;refine wpAny_pyNext_range_end F r ?_ J;have:=Z8.mp u;simp only[n5,List.length_range]at this;exact Int.sub_nonpos_of_le<|Int.toNat_le.mp this
end
def ri(env:Zk):Yb (Yg×dJ)->Yb (Yg×YF)->Yb (Yg×YF):=lr (λcs=>cs) λx q r cs=>r<|if x.2==.free then(x.1,(env.cells.lookup x.1).getD 0)::cs else cs
theorem vd{env:Zk}{n:Yg}{k:dJ}{r:Yb<|Str×dJ}{cs:Yb<|Str×YF}:ri env ((n,k)::r) cs=ri env r (if k==.free then(n,(env.cells.lookup n).getD 0)::cs else cs):=Y7
theorem Jn{env:Zk}{scope:Yt}(h:∀n,(n,YC)∈scope.names->∃a,env.cells.lookup n=Y6 a):closureFor scope env=Zg (ri env scope.names []):=by
 obtain key:∀(l:Yb<|Str×dJ)(cs:Yb<|Str×YF),(∀n,(n,YC)∈l->∃a,env.cells.lookup n=Y6 a)->(X_ l cs λ(x:Yg×dJ)(cs:Yb<|Str×YF)=>(if x.2==YC then do let a<-cellOf env x.1;Zg<|iC ((x.1,a)::cs)else Zg<|iC cs:s_<|ForInStep<|List<|Str×YF))=Zg (ri env l cs):=by intro l;induction l with|nil=>intro cs _;rfl|cons p r I=>
   intro cs u;obtain⟨n,k⟩:=p;simp only[oM];by_cases hk:(k==YC)=Ye;.obtain hk':k=.free:=k9 hk;subst hk';obtain⟨a,F⟩:=u n<|.head _;simp only[vd];simp only[hk,if_true];simp only[(by unfold cellOf;simp only[F]:cellOf env n=Zg a),pure_bind,pure_bind];simp only[F];exact I _ λm hm=>u m<|.tail _ hm
   .simp only[vd];simp only[hk];exact I _ λm hm=>u m<|.tail _ hm
 refine(i6 (·>>=_)<|Eq.trans ?_<|key scope.names [] h).trans ?_;.congr 1
 .rfl
theorem vR{env:Zk}{x:Yg}{a:YF}(I:env.cells.lookup x=Y6 a):∀(l:Yb<|Str×dJ)(cs:Yb<|Str×YF),(x,YC)∈l\/cs.lookup x=Y6 a->cs.lookup x=Y8\/cs.lookup x=Y6 a->(ri env l cs).lookup x=Y6 a:=by intro J;induction J with|nil=>exactλcs h z=>h.elim (λq=>tq q) id|cons zp r u=>
  obtain⟨n,k⟩:=zp;intro cs h h2;erw[vd];by_cases hk:(k==YC)=Ye
  .erw[d9 hk];obtain hk':k=.free:=by simpa using hk
   subst hk';by_cases F:x=n;.subst F;refine u _ (.inr ?_)<|.inr ?_<;>simp[n3,I]
   .obtain hb:(x==n)=Yc:=n9 F;refine u _ ?_ ?_
    .rcases h with h|h
     .left;rcases Yn.mp h with q|q;.injection q with q;subst q;exact g9 Y7 F
      .exact q
     .right;simp only[n3,hb];exact h
    .simp only[n3,hb];exact h2
  .erw[d8 hk];refine u cs ?_ h2;rcases h with h|h
   .left;rcases Yn.mp h with q|q;.injection q with q h_;subst q h_;exact g9 Y7 hk
    .exact q
   .exact .inr h
theorem wI(env:Zk)(x:Yg):∀names:Yb<|Str×dJ,(names.map λ(n,k)=>if(k==YC&&env.scope.kind==.function&&env.kindOf n==Y6 .cell)then(n,YH)else(n,k)).lookup x=(names.lookup x).map λk=>if(k==YC&&env.scope.kind==.function&&env.kindOf x==Y6 .cell)then YH else k:=by intro N;induction N with|nil=>exact  Y7|cons zp r L=>
  obtain⟨n,k⟩:=zp;show n3 x ((if(k==YC&&env.scope.kind==.function&&env.kindOf n==Y6 .cell)=Ye then(n,YH)else(n,k))::_)=_;by_cases u:(x==n)=Ye
  .have F:x=n:=by simpa using u
   subst F;by_cases hc:(k==YC&&env.scope.kind==.function&&env.kindOf x==Y6 .cell)=Ye;.rw[d9 hc];simp only[n3,u,mC,d9 hc]
   .rw[d8 hc];simp only[n3,u,mC,d8 hc]
  .have J:(x==n)=Yc:=(lV _).mp u;have I:=L;by_cases hc:(k==YC&&env.scope.kind==.function&&env.kindOf n==Y6 .cell)=Ye;.rw[d9 hc];simp only[n3,J];exact I
   .rw[d8 hc];simp only[n3,J];exact I
theorem qX{β:Type}{x:Yg}{b:β}:∀{l:Yb<|Str×β},l.lookup x=Y6 b->(x,b)∈l:=by intro l;induction l with|nil=>exactλh=>lz h|cons p r F=>
  obtain⟨y,c⟩:=p;intro h;by_cases u:(x==y)=Ye
  .obtain hx':x=y:=by simpa using u
   subst hx';simp[n3]at h;subst h;exact .head _
  .simp only[n3,Zl.mpr u]at h;exact .tail _<|F h
theorem Jp{e:YJ}{env:Zk}(h:kC e=Yc)(x:n4):foldedSetIterable e env x=Zg x:=by cases e<;>first|rfl|exact su h
structure sb(sc cs:Yt):Prop where
 kind:cs.kind=.function
 a:∀p∈cs.names,p.2≠.cell
 c:∀p∈cs.names,p.2=.local->cs.names.lookup p.1=Y6 .local
 b:∀n,(n,YC)∈cs.names->sc.names.lookup n=Y6 .cell\/sc.names.lookup n=Y6 .free
theorem vM{x:Yg}{sc cs:Yt}(h:kH x sc cs):sb sc cs/\cs.names.lookup x=Y6 .local:=by
 unfold kH at h;simp only[j0,v1,lK]at h;obtain⟨⟨h1,h2⟩,h3⟩:=h;refine⟨⟨h1,λp hp q=>?_,λp hp q=>?_,λn u=>?_⟩,h2⟩;.have:=(h3 p hp).1.1;rw[q]at this;exact pz this
 .have:=(h3 p hp).1.2;rw[q]at this;exact ZC.mp this
 .have:=(h3 _ u).2;simpa using this
section
variable{P:mx}{fr:Ln}{A:cG}{env:Zk}{W:Wd}{σ:St}{s:j8}{cx:Cx}
theorem Qv{sc cs:Yt}(S:qb sc env)(O:sb sc cs)(C:Y9):qb cs<|compEnvC cs (ri env cs.names []) C env:=by
 obtain hk:∀y,(compEnvC cs (ri env cs.names []) C env).kindOf y=(cs.names.lookup y).map λk=>if(k==YC&&env.scope.kind==.function&&env.kindOf y==Y6 .cell)then YH else k:=λy=>wI env y cs.names;refine⟨λy h=>?_,λy h=>?_,λy h=>?_,λy h=>g9 Y7<|O.a _<|qX h,λy h=>?_⟩;.rw[hk,h];rfl
 .rw[hk,h];rfl
 .rw[hk];rcases h with h|h;.exact g9 Y7<|O.a _<|qX h
  .rw[h];simp only[mC];split<;>decide
 .rw[hk]at h;have hm:=qX (by cases u:cs.names.lookup y with|none=>rw[u]at h;simp at h|some k=>
    rw[u]at h;simp only[mC,sU]at h;by_cases hc:(k==YC&&env.scope.kind==.function&&env.kindOf y==Y6 .cell)=Ye
    .have:k=.free:=by simp only[j0,v1]at hc;exact hc.1.1
     rw[this]
    .rw[d8 hc]at h;rcases h with h|h;.exact g9 h<|O.a _<|qX u
     .rw[h]);obtain⟨a,F⟩:=S.b y<|S.e y<|O.b y hm;exact⟨a,vR F _ _ (.inl hm)<|.inl Y7⟩
def Jq(W:Wd)(n:Y9)(cs:Yt)(l:Yb<|Str×V)(m:Yg->Yd n4):Prop:=∀y u,l.lookup y=Y6 u->cs.names.lookup y=Y6 .local/\∃c,m y=Y6 c/\VR W n u c
theorem Qw{sc cs:Yt}(S:qb sc env)(O:sb sc cs){C:Y9}{h:pJ}{m:Yg->Yd n4}{l:Yb<|Str×V}(L:lm P env W σ h)(J:h.Ns C m)(hm:Jq W σ.n cs l m):lm P (compEnvC cs (ri env cs.names []) C env) W {σ with l:=l,a:=Y8} h:=by
 obtain hk:∀y,(compEnvC cs (ri env cs.names []) C env).kindOf y=(cs.names.lookup y).map λk=>if(k==YC&&env.scope.kind==.function&&env.kindOf y==Y6 .cell)then YH else k:=λy=>wI env y cs.names;refine⟨O.kind,L.g,L.f,⟨m,J,λy u hy=>?_⟩,λy k hy=>?_,λk q h=>lz h⟩;.obtain⟨h1,h2⟩:=hm y u hy;exact⟨by rw[hk,h1];rfl,h2⟩
 .obtain⟨p,q⟩:=L.e y k hy;refine⟨p,λhc=>?_⟩;obtain hm:=qX (by rw[hk]at hc;cases I:cs.names.lookup y with|none=>rw[I]at hc;simp at hc|some k=>
    rw[I]at hc;simp only[mC,sU]at hc;by_cases F:(k==YC&&env.scope.kind==.function&&env.kindOf y==Y6 .cell)=Ye
    .have:k=.free:=by simp only[j0,v1]at F;exact F.1.1
     rw[this]
    .rw[d8 F]at hc;rcases hc with hc|hc;.exact g9 hc<|O.a _<|qX I
     .rw[hc]);exact vR (q<|S.e y<|O.b y hm) _ _ (.inl hm)<|.inl Y7
theorem FT{v:V}{all:Yb V}{f:V->St->Rs (Yd V)}{l:Yb V}{σ:St}{r:Yb V}{σ':St}(h:nd v all f l σ=.c r σ'):mu σ.h v=Y6 all:=by
 by_cases q:mu σ.h v=Y6 all;.exact q
 .cases l with|nil=>rw[FJ,d8 q]at h;exact nomatch h|cons=>rw[D5,d8 q]at h;exact nomatch h
theorem Qx{v:V}{all:Yb V}{f:V->St->Rs (Yd V)}{σ:St}{r:Yb V}{σ':St}(h:nd v all f [] σ=.c r σ'):r=[]/\σ'=σ:=by obtain q:=FT h;rw[FJ,d9 q]at h;injection h with h h_;subst h h_;exact⟨Y7,Y7⟩
theorem Qy{v:V}{all:Yb V}{f:V->St->Rs (Yd V)}{x:V}{l:Yb V}{σ:St}{r:Yb V}{σ':St}(h:nd v all f (x::l) σ=.c r σ'):∃o a7 vs,f x σ=.c o a7/\nd v all f l a7=.c vs σ'/\r=o.toList++vs:=by obtain q:=FT h;replace h:=d9 q▸D5▸h;cases F:f x σ with
 |c o a7=>replace h:=F▸h;dsimp only at h;cases u:nd v all f l a7 with|c vs a8=>rw[u]at h;injection h with h h_;subst h h_;exact⟨o,a7,vs,Y7,u,Y7⟩|b=>replace h:=u▸h;cases h
 |b=>replace h:=F▸h;cases h
theorem Qz{v:V}{all:Yb V}{f:V->St->Rs (Yd V)}:∀{l:Yb V}{σ:St},nd v all f l σ≠.b->∃r σ',nd v all f l σ=.c r σ':=by intro I;induction I with
 |nil=>
  intro σ h;by_cases q:mu σ.h v=Y6 all;.exact⟨[],σ,d9 q⟩
  .exact g9 (d8 q) h|cons x l F=>
  intro σ h;rw[D5]at h|-;by_cases q:mu σ.h v=Y6 all;.rw[d9 q]at h|-;cases u:f x σ with|c o a7=>rw[u]at h;dsimp only at h|-;exact cq (F<|by intro q;rw[q]at h;exact g9 Y7 h) λr σ' e=>⟨_,σ',by erw[e];rfl⟩|b=>rw[u]at h;exact g9 Y7 h
  .exact g9 (d8 q) h
theorem QA{cond:X}{cs:Yt}{ifs:Yb YJ}{u:Zk}{frC:Ln}(J:nv P cx cond cs<|.u ifs)(F:Fm P cx.j frC A u)(S:qb cs u){b:V}{σ σ':St}{W:Wd}{s:j8}(I:lb P frC W σ.h s)(L:lm P u W σ s.heap)(e:ev cx cond σ=.c b σ'){bb:Yj}(O:nc σ'.h b=Y6 bb){Q:Yj->j8->Prop}{E:Pv}(T:∀W' s',kc P frC u W σ s W' σ' s'->Q bb s'):Yi P.M A (X_ ifs Ye λc r=>if r then do let ok<-ZJ c u<|eval c u;Zg (iC ok)else Zg<|iC r) Q E s:=by match ifs,J with
 |[],J=>obtain⟨_,q⟩:=J frC A u F S;rw[q]at e;injection e with e h_;subst e h_;obtain rfl:=c0 O;exact j6<|T W s<|kc.cB I L|[c],J=>
  have e2:tr (ev cx cond) σ=.c bb σ':=by rw[yJ e,zO O]
  rw[oM];refine g7<|g7<|m8 ((J frC A u F S).2 W σ s I L<|by rw[e2];intro q;cases q) (λb' s' U=>U.elim λY W' N st=>?_)<|λx s' h=>h.elim;rw[e2]at N;injection N with N h_;subst N h_;exact j6<|j6<|T W' s' st|_::_::_,J=>exact g9 (J frC A u F S).1<|by simp
theorem QB{E:Pv}{D:Y9}{ys:Yp n4}{n:Y9}{x:n4}{Q:Pv}(u:s.heap.get? D=Y6 (Zu ys n))(J:∀F I,F.get? D=Y6 (Zu (ys.push x) I)->mU D s.heap F->Q .none {s with heap:=F})(L:ys.size<=k8):Yi P.M A (Zm (.builtin "list.append") [.ref D,x]) Q E s:=by obtain hL:s.heap.IsList D ys:=⟨_,u,Y7,_,Y7⟩;refine iH slot_list_append hL.typeIs entry_list_append ?_<|args_list_append _ _;show Yi _ _ (updateSeq D (·.push x)>>=λq=>ret .none) _ _ s;refine g7<|wpAny_updateSeq u Y7<|j6 ⟨.none,Y7,J _ _ (rP _ u Y7)<|mA ..⟩
structure yl(P:mx)(A:cG)(cs:Yt)(B:V->Yd (Yb<|Str×V))(tg:YJ):Prop where
 d:∀{W:Wd}{n Ia i:Y9}{s:j8}{v y:V}{c:n4}{l:Yb<|Str×V},qj W n s.heap Ia v i->B y=Y6 l->VR W n y c->∀{Q:z_->j8->Prop}{E:Pv},Q () s->Yi P.M A (Zz tg (.ref Ia) c) Q E s
 a:∀{fr:Ln}{W:Wd}{H:Hp}{s:j8},lb P fr W H s->A.handled=Y8->∀{cenv:Zk}{C:Y9}{m:Yg->Yd n4},cenv.locals=C->(∀y,cs.names.lookup y=Y6 .local->cenv.kindOf y=Y6 .local)->cenv.scope.kind=.function->s.heap.Ns C m->∀{v:V}{c:n4}{l:Yb<|Str×V},B v=Y6 l->VR W H.n v c->∀{Q:z_->j8->Prop}{E:Pv},(∀h' t' m',h'.Ns C m'->(∀b o,b≠C->s.heap.get? b=Y6 o->h'.get? b=Y6 o)->Jq W H.n cs l m'->Q () {s with heap:=h',toks:=t'})->Yi P.M A (assign tg cenv c) Q E s
theorem FU{cs:Yt}{x:Yg}{p:ZR}(J:cs.names.lookup x=Y6 .local):yl P A cs (FK x)<|.Name x p:=by
 refine⟨λq q q q q h=>j6 h,?_⟩;intro fr W H s I X N C m L hk T hm v c l F hv Q E S;subst L;obtain rfl:=c0 F;refine eI<|gQ (hk x J) hm (λV U O=>S _ _ _ U (λb o F e=>(O.2 b F).trans e) λy u hy=>?_)<|(by rw[T];rfl);by_cases h:y=x
 .subst h;obtain e:v=u:=by simpa[n3]using hy
  subst e;exact⟨J,c,d9 Y7,hv⟩
 .obtain F:(y==x)=Yc:=n9 h;simp only[lW,F]at hy;exact lz hy
def Bg(cx:Cx)(elt:X)(B:V->Yd (Yb<|Str×V))(cond:X)(cel:Yb<|Str×Y9)(v:V)(σ:St):Rs<|Option V:=(B v).elim .b λl=>(ev cx cond {σ with l:=l,e:=cel,a:=Y8}).F λb aE=>zk b aE<|ev cx elt
theorem QC{elt:X}{B:V->Yd (Yb<|Str×V)}{cond:X}{cel:Yb<|Str×Y9}{v:V}{σ:St}{o:Yd V}{σ':St}(h:Bg cx elt B cond cel v σ=.c o σ'):∃l b a7,B v=Y6 l/\ev cx cond {σ with l:=l,e:=cel,a:=Y8}=.c b a7/\((nc a7.h b=Y6 Ye/\∃r,ev cx elt a7=.c r σ'/\o=Y6 r)\/nc a7.h b=Y6 Yc/\o=Y8/\σ'=a7):=by unfold Bg at h;cases J:B v with|none=>rw[J]at h;cases h|some l=>rw[J]at h;replace h:(ev cx cond {σ with l:=l,e:=cel,a:=Y8}).F (λb aE=>zk b aE<|ev cx elt)=.c o σ':=h;cases F:ev cx cond {σ with l:=l,e:=cel,a:=Y8}with
 |c b a7=>replace h:=F▸h;have u:zk b a7 (ev cx elt)=.c o σ':=h;refine⟨l,b,a7,Y7,F,?_⟩;unfold zk at u;cases q:nc a7.h b with|none=>replace u:=q▸u;cases u|some t=>cases t with|false=>rw[q]at u;injection u with u h_;subst u h_;exact .inr ⟨Y7,Y7,Y7⟩|true=>replace u:=q▸u;cases I:ev cx elt a7 with|c r a8=>rw[I]at u;injection u with u h_;subst u h_;exact .inl ⟨Y7,r,Y7,Y7⟩|b=>replace u:=I▸u;cases u
 |b=>replace h:=F▸h;cases h
structure nf(P:mx)(fr:Ln)(env:Zk)(aC:Wd)(a7:St)(a9:j8)(vi:V)(I D C:Y9)(i:Y9)(acc:Yb V)(W:Wd)(σ:St)(s:j8):Prop where
 st:kc P fr env aC a7 a9 W {a7 with h:=σ.h} s
 f:qi P fr W σ.n I
 d:qi P fr W σ.n D
 c:qi P fr W σ.n C
 it:qj W σ.n s.heap I vi i
 g:∃ys n,s.heap.get? D=Y6 (Zu ys n)/\ll W σ.n acc ys.toList
 k:∃m,s.heap.Ns C m
theorem nf.cr{S:Wd}{a7:St}{a9:j8}{vi:V}{I D C j:Y9}{acc:Yb V}{W:Wd}{σ:St}{s:j8}(J:nf P fr env S a7 a9 vi I D C j acc W σ s)(hL:env.locals∈fr)(X:a9.heap.get? I=Y8)(L:I≠D)(O:I≠C){u:pJ}{t:Y9}{F:Y9}(hs:mU I s.heap u)(N:qj W σ.n u I vi F):nf P fr env S a7 a9 vi I D C F acc W σ {s with heap:=u,toks:=t}:=by refine bw J.g λys nl Y Z=>bC λU=>?_;obtain⟨m,hm⟩:=J.k;exact U<|⟨J.st.ds hL X J.f (λb o T e=>(hs.2 b T).trans e) Y7 Y7,J.f,J.d,J.c,N,⟨ys,nl,(hs.2 D<|gP L).trans Y,Z⟩,m,hm.sameBut hs<|gP O⟩
theorem nf.names{N:Wd}{a7:St}{a9:j8}{vi:V}{I D C j:Y9}{acc:Yb V}{W:Wd}{σ:St}{s:j8}(J:nf P fr env N a7 a9 vi I D C j acc W σ s)(hL:env.locals∈fr)(T:a9.heap.get? C=Y8)(F:D≠C)(L:I≠C){u:pJ}{t:Y9}(hs:∀b o,b≠C->s.heap.get? b=Y6 o->u.get? b=Y6 o){m:Yg->Yd n4}(hm:u.Ns C m):nf P fr env N a7 a9 vi I D C j acc W σ {s with heap:=u,toks:=t}:=bw J.g λys nl O S=>⟨J.st.ds hL T J.c hs Y7 Y7,J.f,J.d,J.c,J.it.mono (.I ..) (j7 _) λo e=>hs I o L e,⟨ys,nl,hs D _ F O,S⟩,m,hm⟩
theorem nf.inner{T:Wd}{a7:St}{a9:j8}{vi:V}{I D C j:Y9}{acc:Yb V}{W:Wd}{σ:St}{s:j8}(J:nf P fr env T a7 a9 vi I D C j acc W σ s)(hL:env.locals∈fr)(nC:a9.heap.get? C=Y8)(N:D≠C)(S:I≠C){u:Zk}(hc:u.locals=C){l:Yb<|Str×V}{cl:Yb<|Str×Y9}{tb:Yd<|Nat×Yg}{W':Wd}{σ':St}{s':j8}(st:kc P (C::fr) u W {σ with l:=l,e:=cl,a:=tb} s W' σ' s'):nf P fr env T a7 a9 vi I D C j acc W' σ' s':=by refine bw J.g λys nl O Y=>bC λU=>?_;obtain⟨oI,Z⟩:=J.it.O;refine U<|dz J.k λm oN es ep X z=>?_;have keep:∀{a:Y9}{F:Yr},s.heap.get? a=Y6 F->a≠C->qi P fr W σ.n a->s'.heap.get? a=Y6 F:=λ{a F}e L x=>st.w.ext a F e (λq=>L<|q.trans hc) (λhm=>(Yn.mp hm).elim L x.d) x.b;exact⟨kc.inner (σ':={a7 with h:=σ.h}) (a7:={σ with l:=l,e:=cl,a:=tb}) J.st hL nC hc (λq=>J.c.d<|q▸hL) Y7 st,J.f.step Z st.w,J.d.step O st.w,J.c.step X st.w,J.it.mono st.w.d st.w.le λo e=>keep e S J.f,⟨ys,nl,keep O N J.d,Y.mono st.w.d st.w.le⟩,am st.l.l λm a z=>⟨m,hc▸a⟩⟩
theorem QD{R:Result->j8->Prop}{elt J F:YJ}{ifs:Yb YJ}{scope:Yt}{pos:ZR}{it acc:n4}{u:Zk}(I:Y9->j8->Prop)(O:∀n s,I n s->Yi P.M A (pyNext it) (λr a9=>match r with|none=>R (.ok .next) a9|some v=>Yi P.M A (Zz J it v) (λz L=>Yi P.M A (assign J u v) (λ_ L=>Yi P.M A (X_ ifs Ye λc r=>if r then do let ok<-ZJ c u<|eval c u;Zg (iC ok)else Zg<|iC r) (λok N=>if ok then Yi P.M A (Z7 elt u) (λx U=>Yi P.M A (Zm (.builtin "list.append") [acc,x]) (λz S=>∃m,m<n/\I m S) (P_ P.M A u λe s'=>R (.error e) s') U) (P_ P.M A u λe s'=>R (.error e) s') N else∃m,m<n/\I m N) (P_ P.M A u λe s'=>R (.error e) s') L) (P_ P.M A u λe s'=>R (.error e) s') L) (P_ P.M A u λe s'=>R (.error e) s') a9) (P_ P.M A u λe s'=>R (.error e) s') s)(n:Y9)(h:I n s):Q_ P.M A (.compLoop (.ListComp elt [⟨J,F,ifs,0⟩] scope pos) 0 it acc u) R s:=by refine codeAny_loop Y7 I (λn s Z=>?_) n h;show Yi _ A ((compTurn (.ListComp elt [⟨J,F,ifs,0⟩] scope pos) 0 it acc u).onRaise _) _ _ s;refine wpAny_noted ?_;rw[compTurn_list];refine g7<|fP<|g7<|m8 (O n s Z) (λr a9 V=>?_) λz z q=>q;cases r with|none=>exact j6 V|some v=>refine g7<|m8 V (λz L X=>g7<|m8 X (λz N c9=>g7<|m8 c9 (λok U T=>?_) λz z q=>q) λz z q=>q) λz z q=>q;cases ok with|false=>exact j6 ⟨Y7,T⟩|true=>exact g7<|g7<|m8 T (λx S Y=>g7<|m8 Y (λz d0 cN=>j6<|j6 ⟨Y7,cN⟩) λz z q=>q) λz z q=>q
def QE(P:mx)(fr:Ln)(env:Zk)(u:Wd)(a7:St)(a9:j8)(vi:V)(xs total:Yb V)(I D C:Y9)(σf:St)(F:V->St->Rs (Yd V))(n:Y9)(s:j8):Prop:=∃W σ acc rest j,n=xs.length+1-j/\j<=xs.length/\nf P fr env u a7 a9 vi I D C j acc W σ s/\nd vi xs F (xs.drop j) σ=.c rest σf/\acc++rest=total
theorem QF(hh:A.handled=Y8){elt cond:X}{B:V->Yd (Yb<|Str×V)}{tg:YJ}{sc cs:Yt}{e i:YJ}{ifs:Yb YJ}{p:ZR}(T:yl P A cs B tg)(ie:nv P cx elt cs<|.e e)(ic:nv P cx cond cs<|.u ifs)(F:Fm P cx.j fr A env)(S:qb sc env)(O:sb sc cs){aC:Wd}{a7:St}{a9:j8}{vi:V}{xs:Yb V}{I D C:Y9}(nI:a9.heap.get? I=Y8)(nD:a9.heap.get? D=Y8)(nC:a9.heap.get? C=Y8)(a5:I≠D)(Y:I≠C)(a0:D≠C){total:Yb V}{σf:St}(ar:total.length<=k8){R:Result->j8->Prop}(hR:∀W s,kc P fr env aC a7 a9 W {a7 with h:=σf.h} s->qi P fr W σf.n D->qi P fr W σf.n C->(∃ys n,s.heap.get? D=Y6 (Zu ys n)/\ll W σf.n total ys.toList)->(∃m,s.heap.Ns C m)->R (.ok .next) s){W:Wd}{σ:St}{s:j8}{acc rest:Yb V}{j:Y9}(hj:j<=xs.length)(J:nf P fr env aC a7 a9 vi I D C j acc W σ s)(U:nd vi xs (Bg cx elt B cond a7.e) (xs.drop j) σ=.c rest σf)(u:acc++rest=total):Q_ P.M A (.compLoop (.ListComp e [⟨tg,i,ifs,0⟩] cs p) 0 (.ref I) (.ref D)<|compEnvC cs (ri env cs.names []) C env) R s:=by obtain SC:=Qv S O C;have FC:Fm P cx.j (C::fr) A<|compEnvC cs (ri env cs.names []) C env:=⟨.head _,F.b,F.g,F.d,F.frames.imp λl=>lC λb e he=>(b e he).imp_right<|pY λL=>lC<|.tail _⟩;refine QD (QE P fr env aC a7 a9 vi xs total I D C σf<|Bg cx elt B cond a7.e) ?_ _ ⟨W,σ,acc,rest,j,Y7,hj,J,U,u⟩;intro n s h0;refine bC λZ=>?_;obtain⟨W,σ,acc,rest,j,rfl,hj,J,U,u⟩:=h0;have a4:=FT U;cases hx:xs[j]? with|none=>obtain U:=mW (Z8.mp hx)▸U;obtain⟨rfl,rfl⟩:=Qx U;refine Z<|Jm hh (σ:=σf) J.st.f J.it a4 hx λh' hk=>bw J.g λys nl q1 q2=>dz J.k λm oN es ep q3 q4=>?_;refine hR W _ (J.st.ds F.f nI J.f (λb o hb e=>hk b o hb e) Y7 Y7) J.d J.c ⟨ys,nl,hk _ _ (gP a5) q1,?_⟩ ⟨m,oN,es,ep,hk _ _ (gP Y) q3,q4⟩;rw[<-u,eY];exact q2|some v=>
  obtain⟨a2,hv⟩:=Yv.mp hx;rw[dK a2,hv]at U;refine cy (Qy U) λo a8 vs hf af aw=>?_;subst aw;refine cy (QC hf) λl b aE hB hb a1=>Z ?_;obtain hn1:xs.length+1-(j+1)<xs.length+1-j:=Nat.sub_lt_sub_left (dI a2)<|u8 j;refine Jk (σ:=σ) J.st.f J.it a4 hx λc aF bK ae ag cO=>?_;have bL:=J.cr (t:=bK) F.f nI a5 Y cO ag;obtain⟨m,hm⟩:=bL.k;refine T.d ag hB ae<|T.a bL.st.f F.b (C:=C) Y7 SC.l O.kind hm hB ae λb7 bM d3 b8 b9 cP=>?_;have bF:=bL.names (t:=bM) F.f nC a0 Y b9 b8;obtain⟨oN,eN,dN⟩:∃o,b7.get? C=Y6 o/\∀vs,o.data≠.fields vs:=cy b8 λo z z e d z=>⟨o,e,λvs q=>by replace q:=d▸q;cases q⟩;refine QA (frC:=C::fr) ic FC SC (σ:={σ with l:=l,e:=a7.e,a:=Y8}) (lb.under (σ:=σ) bF.st.f bF.c eN dN) (Qw S O bF.st.l b8 cP) hb (bb:=o.isSome) ?_ λaN aL aD=>?_
  .rcases a1 with⟨q,r,_,rfl⟩|⟨q,rfl,_⟩;.exact q
   .exact q
  obtain cC:=bF.inner F.f nC a0 Y Y7 aD;refine bC λZ=>?_;rcases a1 with⟨q,r,hr,rfl⟩|⟨q,rfl,rfl⟩;.refine Z ?_;refine ?_;refine m8 ((ie (C::fr) A _ FC SC).1 aN aE aL aD.f aD.l<|by erw[hr];intro q;cases q) (λcr aV zq=>zq.elim λv' σ' aW aX aP cQ=>bC λZ=>?_)<|λee s' h=>h.elim;rw[hr]at aX;injection aX with aX h_;subst aX h_;have N:=cC.inner (l:=aE.l) (cl:=aE.e) (tb:=aE.a) F.f nC a0 Y Y7 aP;refine bw N.g λys nl q1 q2=>?_;obtain⟨cR,cS⟩:=N.k;refine Z<|QB q1 (λcB d4 q5 bN=>?_) (by refine pd n8<|zJ5 q2.N ?_;refine g8 ?_ ar;refine pd u<|zJ5 j9 ?_;exact m7 _ _);refine⟨xs.length+1-(j+1),hn1,aW,a8,acc++[r],vs,j+1,Y7,a2,⟨N.st.ds F.f nD N.d (λb o hb e=>(bN.2 b hb).trans e) Y7 Y7,N.f,N.d,N.c,N.it.mono (.I ..) (j7 _) λo e=>(bN.2 I a5).trans e,⟨_,_,q5,?_⟩,⟨cR,cS.sameBut bN<|gP a0⟩⟩,af,by rw[v5];exact u⟩;erw[nR];exact q2.X<|.S cQ .U
  .refine Z ?_;refine ?_;exact⟨xs.length+1-(j+1),hn1,aN,_,acc,vs,j+1,Y7,a2,cC,af,u⟩
structure zm(P:mx)(fr:Ln)(env:Zk)(W:Wd)(σ:St)(s:j8)(xs:Yb V)(σ':St)(a:Y9)(W':Wd)(s':j8):Prop where
 st:kc P fr env W σ s W' σ' s'
 new:s.heap.get? a=Y8
 d:qi P fr W' σ'.n a
 g:∃ys n,s'.heap.get? a=Y6 (Zu ys n)/\ll W' σ'.n xs ys.toList
 i:xs.length<=k8
theorem zm.L{xs:Yb V}{σ':St}{a:Y9}{W':Wd}{s':j8}(R:zm P fr env W σ s xs σ' a W' s'):kq P fr env W σ s (.c (.h xs) σ') (.ref a) s':=by refine bw R.g λys n F u=>?_;refine⟨_,_,_,Y7,R.st.d7 R.new F R.d,.ee (o:=Zu ys n) (items:=ys) (e:=n) ?_ Y7 Y7 (by have:=u.N;obtain this:=ZY.symm.trans this;have:=R.i;lia) (u.mono (⟨λq q=>Y7,λb c e=>by show(if b=a then _ else _)=_;rw[d8];exact e;rintro rfl;replace e:=R.d.f.symm.trans e;cases e⟩:tI σ'.n W'<|W'.u a<|listOf ys n)<|j7 _) Y7⟩;exact bj Y7 Y7
structure tZ(P:mx)(fr:Ln)(env:Zk)(W:Wd)(σ:St)(s:j8)(xs:Yb V)(σ':St)(a C:Y9)(W':Wd)(s':j8):Prop where
 d:zm P fr env W σ s xs σ' a W' s'
 f:s.heap.get? C=Y8
 c:qi P fr W' σ'.n C
 h:a≠C
 g:∃m,s'.heap.Ns C m
theorem tZ.N{xs:Yb V}{σ':St}{a C:Y9}{W':Wd}{s':j8}(R:tZ P fr env W σ s xs σ' a C W' s')(F:Fm P cx.j fr A env){u:pJ}(hs:mU C s'.heap u):zm P fr env W σ s xs σ' a W' {s' with heap:=u}:=bw R.d.g λys n L J=>⟨R.d.st.ds F.f R.f R.c (λb o I e=>(hs.2 b I).trans e) Y7 Y7,R.d.new,R.d.d,⟨ys,n,(hs.2 _ R.h).trans L,J⟩,R.d.i⟩
def Bh(cx:Cx)(elt:X)(B:V->Yd (Yb<|Str×V))(it cond:X)(σ:St):Rs V:=(ev cx it σ).F λvi a7=>match mu a7.h vi with|some xs=>(nd vi xs (Bg cx elt B cond a7.e) xs a7).F λvs a8=>pf vs.length<|.c (.h vs) {a7 with h:=a8.h}|Option.none=>.b
theorem tf{elt it cond:X}{x:Yg}{σ:St}:ev cx (.u elt x it cond) σ=Bh cx elt (FK x) it cond σ:=Y7
theorem QG{elt it:X}{x y:Yg}{σ:St}:ev cx (.w elt x y it) σ=Bh cx elt (Bf x y) it (.C Ye) σ:=Y7
theorem yE{elt it cond:X}{B:V->Yd (Yb<|Str×V)}{tg:YJ}{sc cs:Yt}{e i:YJ}{ifs:Yb YJ}{p:ZR}(T:yl P A cs B tg)(ie:nv P cx elt cs<|.e e)(ii:nv P cx it sc<|.e i)(ic:nv P cx cond cs<|.u ifs)(F:Fm P cx.j fr A env)(S:qb sc env)(O:sb sc cs)(h1:kC i=Yc)(I:lb P fr W σ.h s)(L:lm P env W σ s.heap)(u:Bh cx elt B it cond σ≠.b){a2:Yd<|n4->s_ z_}{Q:Pv}{E:Pv}(N:∀xs σ' a C W' s',Bh cx elt B it cond σ=.c (.h xs) σ'->tZ P fr env W σ s xs σ' a C W' s'->compPost P.M A E a2 Q (.ref a) C (.ok .next) s'){aa:ZR}:Yi P.M A (comprehension (.ListComp e [⟨tg,i,ifs,0⟩] cs p) cs env aa (newList []) Yc (Z7 i env) a2) Q E s:=by unfold Bh at u N;refine wpAny_comprehension_free Y7 (Jp h1) (Jn λn hn=>S.b n<|S.e n<|O.b n hn) O.kind O.c<|zX (ii fr A env F S).1 I L u λvi ci aC a7 a9 aI U af=>?_;rw[Rs.u aI]at u N;cases a1:mu a7.h vi with|none=>rw[a1]at u;exact g9 Y7 u|some xs=>
  rw[a1]at u N;dsimp only at u N;refine cq (Qz<|Rs.J u) λvs σf ht=>?_;rw[Rs.u ht]at u N;refine cg (BR u) λhz ac=>?_;rw[ac]at N;refine Jj U.f af a1 λob a6=>gI<|wpAny_newFunctionEnv O.a (by intro y hy;simp at hy) (λaF bG Z=>?_) O.kind;dsimp only at bG Z⊢;generalize a8:a9.heap.push ob=H1 at bG Z a6⊢;have z1:H1.objs.size=a9.heap.objs.size+1:=by rw[<-a8,lL]
  generalize Y:H1.push {cls:=.type "list",dict:=Y8,data:=.seq ([]:Lv).toArray}=H2 at bG Z⊢;have z2:H2.objs.size=a9.heap.objs.size+2:=by rw[<-Y,lL,z1]
  obtain nI:=xH _;have nD:a9.heap.get? H1.objs.size=Y8:=gD (by erw[z1];exact fM _);have nC:a9.heap.get? H2.objs.size=Y8:=gD (by erw[z2];exact m7 _ _);obtain up:∀{a:Y9},a9.heap.get? a=Y8->s.heap.get? a=Y8:=λ{a}h=>by cases q:s.heap.get? a with|none=>rfl|some o=>obtain⟨o',e'⟩:=U.w.f _ _ q;rw[h]at e';exact lz e'
  obtain hID:a9.heap.objs.size≠H1.objs.size:=by erw[z1];exact v9<|u8 _
  obtain hIC:a9.heap.objs.size≠H2.objs.size:=by erw[z2];simp
  have a0:H1.objs.size≠H2.objs.size:=by refine zJ5 z1<|zJ5 z2 ?_;exact v9<|u8<|_+1
  obtain old:∀b o,a9.heap.get? b=Y6 o->aF.get? b=Y6 o:=λb o e=>Z.extBut b o (by rintro rfl;rw[nC]at e;exact lz e)<|eT _<|Y▸eT _ (a8▸eT _ e);obtain eD:=Z.extBut _ _ a0<|eT _<|Y▸eX _ Y7;have bB:=a6.mono (.I ..) (j7 _)<|λo e=>Z.extBut _ _ hIC<|eT _<|Y▸eT _ e;have J:nf P fr env aC a7 a9 vi a9.heap.objs.size H1.objs.size H2.objs.size 0 [] aC a7 {a9 with heap:=aF}:=⟨kc.grow U.f U.l old Y7 Y7,qi.new U.f nI,qi.new U.f nD,qi.new U.f nC,bB,⟨#[],0,eD,.U⟩,⟨_,bG⟩⟩;have loop:=QF F.b T (e:=e) (i:=i) (p:=p) ie ic F S O nI nD nC hID hIC a0 (total:=vs) (σf:=σf) hz (acc:=[]) (rest:=vs) (j:=0)
   (R:=compPost P.M A E a2 Q (.ref H1.objs.size) H2.objs.size) ?_ (v8 _) J ht Y7;.exact codeAny_compStart_list loop<|Qu (v:=vi) (n:=a7.n) (W:=aC) (i:=0) bB loop
  .intro W' s' al oD oC ah hm;exact N vs _ H1.objs.size H2.objs.size W' s' Y7 ⟨⟨U.cr al,up nD,oD,ah,hz⟩,up nC,oC,a0,hm⟩
theorem QH{sc cs:Yt}{elt it cond:X}{x:Yg}{e i:YJ}{ifs:Yb YJ}{u p:ZR}(O:nv P cx it sc<|.e i)(N:nv P cx elt cs<|.e e)(T:nv P cx cond cs<|.u ifs)(h4:kH x sc cs)(h1:kC i=Yc):nv P cx (.u elt x it cond) sc<|.e<|.ListComp e [⟨.Name x u,i,ifs,0⟩] cs p:=by
 intro fr A env F S;obtain key:q7 P fr A env (Z7 (.ListComp e [⟨.Name x u,i,ifs,0⟩] cs p) env)<|ev cx<|.u elt x it cond:=λW σ s I L J=>by refine yE (FU (vM h4).2) N O T F S (vM h4).1 h1 I L J λxs σ' a C W' s' e R=>?_;obtain⟨m,hm⟩:=R.g;exact⟨m,hm,λU hs=>by simp only[tf,e];exact(R.N F hs).L⟩
 exact⟨key,qN key λq=>Y7⟩
theorem QI{sc:Yt}{x:Yg}{e:X}{v:YJ}{q p:ZR}(V:sc.names.lookup x=Y6 .local)(Y:nv P cx e sc<|.e v):nv P cx (.G x e) sc<|.e<|.NamedExpr (.Name x q) v p:=by
 intro fr A env F S;have hk:=S.l x V;obtain key:q7 P fr A env (Z7 (.NamedExpr (.Name x q) v p) env)<|ev cx<|.G x e:=λW σ s I L J=>by obtain hev:ev cx (.G x e) σ=(ev cx e σ).F λv a7=>.c v<|a7.F x v:=Y7;rw[hev]at J|-;show Yi P.M A (do let v<-Z7 v env;holding [v]<|assign (.Name x q) env v;Zg v) _ _ s;refine g7<|zX (Y fr A env F S).1 I L J λv c aC a7 a9 Z u hv=>?_;rw[Rs.u Z];refine am u.l.l λm O z=>?_;refine g7<|v7<|eI<|gQ hk O (λU N T=>?_) (by rw[u.l.kind];rfl);obtain aB:=kc.jw (s':={a9 with heap:=U,toks:=a9.toks+1}) u.f u.l F.f hv hk O N T Y7 Y7;exact j6 ⟨v,a7.F x v,aC,Y7,u.cr aB,hv⟩
 exact⟨key,qN key λz=>Y7⟩
end
set_option tactic.hygienic true in theorem QJ{pos F:Pos}{c cv:n4}(l:Lv)(h:TriplesOk l)(e:codeAmong F (l++[rawInt pos.line,rawInt pos.col,c])=some cv):codeAmong F l=some cv\/cv=c:=by fun_induction TriplesOk l with
 |case1=>
  simp only[oO,rawInt,codeAmong]at e;split at e;.obtain rfl:=c0 e;exact .inr Y7
  .exact lz e|case2 L t b' u x rest J=>
  simp only[nP,codeAmong]at e|-;split at e;.rename_i I;rw[d9 I];exact .inl e
  .rename_i I;rw[d8 I];exact J h e|case3 l h1 h2=>exact h.elim
structure xm(ps:Yb Yg)(sc ls:Yt):Prop where
 b:wJ ps ls=Ye
 c:og ps=Ye
 a:∀n,(n,YC)∈ls.names->sc.names.lookup n=Y6 .cell\/sc.names.lookup n=Y6 .free
section
variable{P:mx}{fr:Ln}{A:cG}{env:Zk}{W:Wd}{σ:St}{s:j8}{cx:Cx}{W':Wd}{σ':St}{s':j8}
theorem QK{k:Y9}{o:O}(h:σ.o k=Y6 o):σ.N k o=σ:=by
 obtain e:(λj=>if j=k then Y6 o else σ.o j)=σ.o:=funext λj=>by
  by_cases hj:j=k;.subst hj;rw[d9 Y7,h]
  .exact bk hj Y7
 show{σ with o:=λj=>if j=k then Y6 o else σ.o j}=σ;rw[e]
theorem QL{σ:St}{v:V}(h:vc σ v≠.b):∃k q,σ.a=Y6 (k,q)/\σ.o k=Y6 (.d q)/\vc σ v=.c v σ:=by unfold vc at h|-;revert h;cases σ.a with|none=>exactλh=>g9 Y7 h|some p=>dsimp only;cases F:σ.o p.1 with|none=>exactλh=>g9 Y7 h|some o=>cases o with
   |d u=>
    by_cases e:u=p.2;.subst e;exactλz=>⟨p.1,p.2,Y7,F,d9 Y7⟩
    .exactλh=>g9 (d8 e) h|_=>exactλh=>g9 Y7 h
theorem QM(C:ui P cx){sc ls:Yt}{ps:Yb Yg}{b:X}{a:Arguments}{body:YJ}{p:ZR}(ha:xi a ps)(hb:Ok b ls<|.e body)(hs:hJ ps sc ls):nv P cx (.L ps b) sc<|.e<|.Lambda a body ls p:=by
 have O:=(by
   unfold hJ at hs;rw[j0]at hs;refine⟨hs.1,?_,λn hn=>?_⟩;.have:=hs.1;unfold wJ at this;simp only[j0]at this;exact this.1.1.2
   .have:=Yx.mp hs.2 _ hn;simpa using this:xm ps sc ls);intro fr A env F S;obtain key:q7 P fr A env (Z7 (.Lambda a body ls p) env)<|ev cx<|.L ps b:=λW σ s I L ac=>by
  obtain hev:ev cx (.L ps b) σ=vc σ (.r ps b σ.e):=Y7;rw[hev]at ac⊢;refine bC λu=>?_;obtain⟨k,q',an,a4,ap⟩:=QL ac;refine u ?_;rw[ap];refine bC λu=>?_;obtain⟨hk,hq,c,hc,hd⟩:=L.d k q' an;obtain⟨_,oc,a2,pl,rfl,hT⟩:=I.o k _ a4;obtain⟨mg,bm,ob,a3,ar,ak,V,ag,a5,U⟩:=C.e;have aa:=hZ I a3;obtain hold:=I.y k hk;obtain hgP:dY≠W.c k:=λq=>by refine bC λu=>?_;obtain⟨o,es,ep,e,_⟩:=a3;refine u ?_;rw[q,hold]at e;exact lz e
  obtain hbP:bm≠W.c k:=λq=>by rw[q,hold]at V;exact lz V
  obtain hbG:bm≠dY:=λq=>by refine bC λu=>?_;obtain⟨o,es,ep,e,az,_⟩:=a3;refine u ?_;rw[q,e]at V;cases V;rw[az]at U;cases U
  have hB:s.heap.BuiltinsAt mg<|W.c k:=⟨bm,ob,ar,ak,hbG,hbP,I.f _ _ V,ag,a5,U⟩;obtain hcl:=Jn (env:=env) (scope:=ls) λn hn=>S.b n<|S.e n<|O.a n hn;refine u ?_;have Y:∀y j,σ.e.lookup y=Y6 j->j<σ.n/\(ls.names.lookup y=Y6 .free->(ri env ls.names []).lookup y=Y6 (W.c j)):=λy j hj=>by obtain⟨h1,h2⟩:=L.e y j hj;refine⟨h1,λT=>?_⟩;obtain hm:=qX T;exact vR (h2<|S.e y<|O.a y hm) _ _ (.inl hm)<|.inl Y7
  refine kla_eval (ha.c env) ?_;have a7:∀(aC:Wd)(a9:j8)(cv J:n4)(N:b_),kc P fr env W σ s aC σ a9->ro aC cv q'->kq P fr env W σ s (.c (.r ps b σ.e) σ) (.ref a9.heap.objs.size) {a9 with heap:=a9.heap.push {cls:=.type "function",data:=.func<|kla_fn "<lambda>" (env.qual++"<lambda>") a body ls (ri env ls.names []) ((mg "__name__").getD .none) cv J},toks:=N}:=by
   intro aC a9 cv J N Z au;refine bC λu=>?_;obtain aB:=kc.d6 (s':={a9 with heap:=a9.heap.push {cls:=.type "function",data:=.func<|kla_fn "<lambda>" (env.qual++"<lambda>") a body ls (ri env ls.names []) ((mg "__name__").getD .none) cv J},toks:=N}) Z.f Z.l {cls:=.type "function",data:=.func<|kla_fn "<lambda>" (env.qual++"<lambda>") a body ls (ri env ls.names []) ((mg "__name__").getD .none) cv J} Y7 Y7 Y7 Y7;obtain st:=Z.cr aB;refine u ?_;refine⟨_,_,_,Y7,st,.jz (bj Y7 Y7) Y7 ?_⟩;refine⟨⟨body,Y7,hb⟩,O.b,?_,Y7,Y7,λcargs hl=>ha.b (kla_fn "<lambda>" (env.qual++"<lambda>") a body ls (ri env ls.names []) ((mg "__name__").getD .none) cv J) Y7 Y7 cargs hl,λy T=>by refine bC λu=>?_;obtain hm:=qX T;obtain⟨a',aw⟩:=S.b y<|S.e y<|O.a y hm;refine u ?_;exact⟨a',vR aw _ _ (.inl hm)<|.inl Y7⟩,λy j hj=>⟨(Y y j hj).1,λT=>?_⟩⟩;.exact(hq.symm▸au).mono aB.w.d
   .rw[st.w.d.d j (Y y j hj).1];exact(Y y j hj).2 T
  cases T:codeAmong p pl.toList with|some cv=>refine kla_makeFunctionHit (mg:=mg) hcl L.g aa hc (hd.keeps I.f) a2 hT.1 T hB λJ h' N ax z=>?_;exact a7 W _ cv J N (kc.grow I L ax Y7 Y7:kc P fr env W σ s W σ {s with heap:=h',toks:=N})<|hT.2 p cv T|none=>
   refine kla_makeFunction (mg:=mg) hcl L.g aa hc (hd.keeps I.f) a2 hT.1 T hgP hB λc' J h' N hx ay bf af al=>?_;refine bC λu=>?_;obtain⟨cT,oc,vs,t,e2,b1,b0,hv⟩:=af;refine u ?_;injection e2 with e2;subst e2;refine bC λu=>?_;obtain hnew:s.heap.get? c'=Y8:=gD ay;have ab:ro (W.u c' oc) (.ref c') q':=⟨c',oc,vs,t,Y7,bj Y7 Y7,b0,hq▸hv⟩;obtain Z:kc P fr env W σ s (W.u c' oc) (σ.N k<|.d q') {s with heap:=h',toks:=N}:=kc.jv (g:=(W.u c' oc).fz) I L hk F.f (.d q') (λb' c h=>bk (by rintro rfl;replace h:=(qi.new I hnew).f.symm.trans h;exact by cases h) h) (λb' be e'=>by
      by_cases a8:b'=c';.subst a8;replace e':=bi Y7 e';obtain rfl:=c0 e';exact .inr ⟨hnew,b1⟩
      .exact .inl<|bc a8 e') (.X ⟨by rw[lB];exact TriplesOk_snoc _ _ _ _ hT.1,λpos cv e=>by
         rw[lB]at e;rcases QJ _ hT.1 e with e|e;.refine bC λu=>?_;obtain⟨bO,aZ,cU,bK,x1,x2,x3,x4⟩:=hT.2 pos cv e;refine u ?_;refine⟨bO,aZ,cU,bK,x1,?_,x3,x4⟩;show(if bO=c' then _ else _)=_;rw[d8];exact x2;rintro rfl;rw[(qi.new I hnew).f]at x2;exact lz x2
         .rw[e];exact ab⟩) (λb o hb e=>hx b o hb e) al Y7 Y7;refine u ?_;rw[QK a4]at Z;exact a7 _ _ (.ref c') J N Z ab
 exact⟨key,qN key λz=>Y7⟩
set_option genCtorIdx true in inductive td where|b|a
def td.val(k:td)(xs:Yb V)(σ:St):V:=match k with|.b=>.h xs|.a=>.g σ.n
def td.st(k:td)(xs:Yb V)(σ:St):St:=match k with|.b=>σ|.a=>σ.add<|.a xs
theorem zm.J(k:td){xs:Yb V}{a:Y9}(R:zm P fr env W σ s xs σ' a W' s'):∃W'',kc P fr env W σ s W'' (k.st xs σ') s'/\VR W'' (k.st xs σ').n (k.val xs σ') (.ref a)/\∀b,b≠a->qi P fr W' σ'.n b->qi P fr W'' (k.st xs σ').n b:=by
 refine bw R.g λys n I F=>?_;obtain hlen:ys.size<=k8:=by have:=F.N;rw[n8]at this;have:=R.i;lia
 cases k with|b=>
  refine⟨_,R.st.d7 R.new I R.d,.ee (o:=Zu ys n) (items:=ys) (e:=n) ?_ Y7 Y7 hlen (F.mono (⟨λz z=>Y7,λb c e=>by show(if b=a then _ else _)=_;rw[d8];exact e;rintro rfl;replace e:=R.d.f▸e;cases e⟩:tI σ'.n W'<|W'.u a<|listOf ys n)<|j7 _) Y7,λb u o=>⟨o.g,o.d,?_,o.b⟩⟩;.exact bj Y7 Y7
  .show(if b=a then _ else _)=_;rw[d8 u];exact o.f|a=>
  obtain wl:=W'.I σ'.n a;obtain ρn:(W'.add σ'.n a).c σ'.n=a:=bj Y7 Y7;refine⟨_,R.st.jr R.new I R.d<|.J (F.mono wl<|fM _) hlen,?_,λb u o=>⟨o.g,o.d,o.f,λk hk q=>?_⟩⟩;.obtain h1:VR (W'.add σ'.n a) (σ'.n+1) (.g σ'.n)<|.ref<|(W'.add σ'.n a).c σ'.n:=.ju<|u8 _;rw[ρn]at h1;exact h1
  .rcases ZD.mp hk with h|h;.rw[wl.d k h]at q;exact o.b k h q
   .subst h;rw[ρn]at q;exact u q.symm
theorem QN{sc:Yt}{es:X}{l:Yb YJ}{p:ZR}(V:nv P cx es sc<|.es l):nv P cx (.I es) sc<|.e<|.List l p:=by
 intro fr A env F S;obtain Je:=(V fr A env F S) p;obtain key:q7 P fr A env (Z7 (.List l p) env)<|ev cx<|.I es:=λW σ s I L u=>by
  refine List_<|vX Je.2.2 I L u λxs cs W' σ' s' e st hv=>?_;have O:ev cx (.I es) σ=pf xs.length (.c (.g σ'.n)<|σ'.add<|.a xs):=e;rw[O]at u⊢;obtain⟨hz,r⟩:=BR u;rw[r];have N:cs.length<=k8:=by rw[hv.N];exact hz
  refine bC λT=>?_;obtain nA:s'.heap.get? s'.heap.objs.size=Y8:=xH _;obtain stp:kc P fr env W' σ' s' W' σ' {s' with heap:=s'.heap.push {cls:=.type "list",data:=.seq cs.toArray}}:=kc.jt st.f st.l _ Y7 Y7 Y7;obtain R:zm P fr env W σ s xs σ' s'.heap.objs.size W' {s' with heap:=s'.heap.push {cls:=.type "list",data:=.seq cs.toArray}}:=⟨st.cr stp,by cases q:s.heap.get? s'.heap.objs.size with|none=>rfl|some o=>obtain⟨o',J⟩:=st.w.f _ _ q;rw[nA]at J;exact lz J,qi.new st.f nA,⟨cs.toArray,0,eX _ Y7,by simpa using hv⟩,hz⟩;obtain⟨Y,U,Z,_⟩:=R.J .a;refine T ?_;exact gI ⟨_,_,Y,Y7,U,Z⟩<|by show cs.toArray.size<=k8;exact N
 exact⟨key,qN key λz=>Y7⟩
end
section
variable{P:mx}{fr:Ln}{A:cG}{env:Zk}{W W':Wd}{σ σ':St}{s s':j8}{E:Pv}
theorem QO{v:V}{n i Ia:Y9}(x:qj W n s.heap Ia v i){F:Yb YJ}{J:Y9}{p:ZR}{a:Y9}{Q:z_->j8->Prop}(L:Q () s):Yi P.M A (Zz (.Tuple F J p) (.ref Ia)<|.ref a) Q E s:=by
 have u:∀{o:Yr}{I:YA}{vs:Yp n4},s.heap.get? Ia=Y6 o->o.cls=.type I->o.data=.fields vs->["enumerate","zip","dict_itemiterator","dict_reverseitemiterator","odict_iterator","itertools.zip_longest","itertools.pairwise"].contains I=Yc->Yi P.M A (Zz (.Tuple F J p) (.ref Ia)<|.ref a) Q E s:=λ{o I vs}h1 h2 h3 h4=>by obtain⟨c,d,e,f⟩:=o;subst h2;subst h3;refine g7<|iD h1 ?_;show Yi _ _ (if(["enumerate","zip","dict_itemiterator","dict_reverseitemiterator","odict_iterator","itertools.zip_longest","itertools.pairwise"].contains I&&_)=Ye then _ else _) _ _ _;rw[h4,Bool.false_and];exact j6 L
 cases x with|d a b d=>obtain⟨o,h1,h2,h3⟩:=d;exact u h1 h2 h3 iu|g a d=>obtain⟨o,h1,h2,h3⟩:=d;exact u h1 h2 h3 iu|f a=>exact u a Y7 Y7 iu
theorem QP{cs:Yt}{x y:Yg}{p q r:ZR}{k:Y9}(U:cs.names.lookup x=Y6 .local)(hy:cs.names.lookup y=Y6 .local)(S:x≠y):yl P A cs (Bf x y)<|.Tuple [.Name x p,.Name y q] k r:=by
 refine⟨λ{W n Ia i s v y c l}hi F hv{Q E}h=>?_,?_⟩;.refine jk F λw h1 w=>am (ji h1) λw h2 w=>?_;cases y with|n=>refine dz hv.Z λt w w w J w=>?_;subst J;exact QO hi h|_=>exact lz h2
 intro fr W H s I hA Z C m X hk T hm v c l F hv Q E hQ;subst X;obtain⟨⟨a,b⟩,h1,rfl⟩:=jl<|F;refine jh h1 λV h2 h3=>?_;obtain rfl:V=[a,b]:=by rcases V with _|⟨c,_|⟨d,_|⟨e,r⟩⟩⟩<;>first|exact lz h3|(cases h3;rfl)
 cases v with|n=>
  refine dh hv.Z λt o items e' J g1 g2 g3 g4 Y=>?_;subst J;obtain rfl:=c0 h2;obtain⟨cl⟩:=items;refine bp (ll.Z Y) λL N e2 va vb=>?_;have e3:cl=[L,N]:=e2;subst e3;refine g7<|fP<|g7<|v7<|wpAny_unpackItems_tuple hA (items:=#[L,N]) ⟨o,(I.g _ _ g1).1,g2,e',g3⟩ λaF O=>?_;refine g7<|v7<|eI<|gQ (hk x U) (hm.extBut O<|dv hm λo w w e w=>v9<|rA e) (λb7 b8 b9=>?_)<|(by rw[T];rfl);refine g7<|v7<|eI<|gQ (hk y hy) b8 (λc9 cF cV=>j6<|hQ _ _ _ cF (λb o F e=>(cV.2 b F).trans<|(b9.2 b F).trans<|O b o (v9<|rA e) e) λz u hz=>?_)<|(by rw[T];rfl);by_cases h:z=y
  .subst h;obtain e:b=u:=by simpa[n3]using hz
   subst e;exact⟨hy,N,d9 Y7,vb⟩
  .obtain hb':(z==y)=Yc:=n9 h;simp only[lW,hb']at hz;by_cases h2:z=x
   .subst h2;obtain e:a=u:=by simpa[n3]using hz
    subst e;exact⟨U,L,(d8 S).trans<|d9 Y7,va⟩
   .obtain hb2:(z==x)=Yc:=n9 h2;simp only[lW,hb2]at hz;exact lz hz|_=>exact lz h2
theorem QQ{cx:Cx}{sc cs:Yt}{elt it:X}{x y:Yg}{e i:YJ}{J u N p:ZR}{k:Y9}(Z:nv P cx it sc<|.e i)(Y:nv P cx elt cs<|.e e)(h4:uU x y sc cs)(h1:kC i=Yc):nv P cx (.w elt x y it) sc<|.e<|.ListComp e [⟨.Tuple [.Name x J,.Name y u] k N,i,[],0⟩] cs p:=by
 intro fr A env F S;unfold uU at h4;rw[j0,j0,v1,nK]at h4;refine bC λU=>?_;obtain⟨⟨O,V⟩,q3⟩:=h4;obtain key:q7 P fr A env (Z7 (.ListComp e [⟨.Tuple [.Name x J,.Name y u] k N,i,[],0⟩] cs p) env)<|ev cx<|.w elt x y it:=λW σ s I L T=>by refine yE (cond:=.C Ye) (ifs:=[]) (QP (vM O).2 V q3) Y Z (λfr A env F S=>⟨Y7,λσ=>Y7⟩:nv P cx (.C Ye) cs<|.u []) F S (vM O).1 h1 I L T λxs σ' a C W' s' e R=>?_;obtain⟨m,hm⟩:=R.g;exact⟨m,hm,λh' hs=>by rw[QG,e];exact(R.N F hs).L⟩
 refine U ?_;exact⟨key,qN key λq=>Y7⟩
end
section
variable{P:mx}{cx:Cx}
theorem ml(C:ui P cx){x:X}{sc:Yt}{V:Ph}(h:Ok x sc V):nv P cx x sc V:=by induction h with
 |none=>exactλfr A env F S=>have u:q7 P fr A env (Z7 (.Constant .none _ _) env)<|ev cx .none:=wU (v:=.none) (λq=>Y7) λW σ s I L Q E N=>λq q q=>N .none s.toks .none
   ⟨u,qN u λq=>Y7⟩|u=>exactλfr A env F S W σ s I L q=>j6<|qL Y7 (kc.cB I L) .none|A=>exactλfr A env F S=>have u:q7 P fr A env (Z7 (.Constant (.bool _) _ _) env)<|ev cx<|.C _:=wU (v:=.j _) (λq=>Y7) λW σ s I L Q E N=>λq q q=>N (.bool _) s.toks<|.jt _
   ⟨u,qN u λq=>Y7⟩|Y=>exactλfr A env F S=>⟨Y7,λσ=>Y7⟩|H=>exactλfr A env F S=>have u:=wU (v:=.d _) (λq=>Y7) λW σ s I L Q E N=>wpAny_Constant_int<|N _ _<|.cr _ _
   ⟨u,qN u λq=>Y7⟩|T h=>exactλfr A env F S=>by simp only[j0,t4]at h;obtain u:q7 P fr A env (Z7 (.Constant (.str _) _ _) env)<|ev cx<|.h _:=wU (v:=.f _) (λq=>Y7) λW σ s I L Q E N=>oR<|N _ _<|.d6 _ _ h.1 h.2;exact⟨u,qN u λq=>Y7⟩|v h=>exact Qb h|V h=>exact Qc h|g h=>exact Qd C h|K _ _ a b=>exactλfr A env F S=>have u:q7 P fr A env (Z7 (.BinOp _ _ _ _) env)<|ev cx<|.t _ _ _:=λW σ s I L J=>wpAny_BinOp<|FQ (a fr A env F S).1 (b fr A env F S).1 I L J λW σ s va Z Y cb I L U O J=>PY I L U O J
   ⟨u,qN u λq=>Y7⟩|I _ a=>exact Qe a|Q _ a=>exact Qg a|L _ _ h a b=>exact Qh a b h|J _ _ a b=>exactλfr A env F S=>J9 a b F S _ _|w _ _ a b=>exactλfr A env F S=>⟨by simp,λpos whole=>J9 a b F S pos whole⟩|W _ _ a b=>exactλfr A env F S=>Jd a b F S _ _|R _ _ a b=>exactλfr A env F S=>⟨by simp,λpos whole=>Jd a b F S pos whole⟩|N _ _ _ a b c=>exact Qi a b c|M _ _ h a b=>exactλfr A env F S=>have u:q7 P fr A env (Z7 (.Subscript _ _ _) env)<|ev cx<|.q _ _:=λW σ s I L J=>Subscript_<|FQ (a fr A env F S).1 (b fr A env F S).1 I L J λW σ s va Z Y cb I L U O J=>Q4 I L U O J h
   ⟨u,qN u λq=>Y7⟩|S _ _ _ a b c=>exact Qj a b c|z _ h a=>exact Qk C a h|E _ a=>exact Qp a|U _ a=>exact Qq a|P=>exactλfr A env F S pos=>⟨Y7,Y7,λW σ s I L q=>Calls.spliced_nil ⟨_,σ,W,Y7,kc.cB I L,.U⟩⟩|D _ _ h a b=>exact Qn a b h|B _ _ a b=>exact Qr C a b|m _ _ h T a b=>exact Qt C a b h T|C _ _ _ h T a b c=>exact QH a b c h T|O h O hs=>exact QM C h O hs|j h _ a=>exact QI h a|F _ a=>exact QN a|d _ _ h T a b=>exact QQ a b h T
end
set_option genCtorIdx true in inductive Fl where|a|d|c|b(v:V)
def Jr:Yd O->Yj|some<|.cell _=>Ye|_=>Yc
def St.L(σ:St)(x:Yg)(v:V):Yd St:=(σ.e.lookup x).bind λk=>if Jr (σ.o k)then Y6 {σ with o:=λj=>if j=k then Y6<|.cell (Y6 v)else σ.o j}else Y8
theorem Js{σ σ':St}{x:Yg}{v:V}(h:σ.L x v=Y6 σ'):∃k o,σ.e.lookup x=Y6 k/\σ.o k=Y6 (.cell o)/\σ'={σ with o:=λj=>if j=k then Y6<|.cell (Y6 v)else σ.o j}:=by refine jh h λk h1 h2=>?_;clear h;cases u:σ.o k with|none=>obtain h2:=u▸h2;cases h2|some o=>cases o with|cell o=>rw[u]at h2;obtain rfl:=c0 h2;exact⟨k,o,h1,u,Y7⟩|_=>rw[u]at h2;cases h2
def kn(x:Yg)(v:V):Yb (Yg×V)->Yb (Yg×V):=lr [(x,v)] λy l r=>if x==y.1 then(y.1,v)::l else y::r
theorem D8{x y:Yg}{v u:V}{r:Yb<|Str×V}:kn x v ((y,u)::r)=if x==y then(y,v)::r else(y,u)::kn x v r:=Y7
set_option tactic.hygienic true in def Bi(k:St->Rs Fl):Fl->St->Rs Fl|.a,σ=>k σ|.c,σ=>k σ|.d,σ=>.c .a σ|.b v,σ=>.c (.b v) σ
def jN(c:St->Rs Yj)(b o:St->Rs Fl):Y9->St->Rs Fl:=nr (λq=>.b) λr σ=>(c σ).F λt σ=>if t then(b σ).F (Bi r)else o σ
open Classical in
set_option tactic.hygienic true in
def qc(v:V)(all:Yb V)(b:V->St->Rs Fl):Yb V->St->Rs Fl:=lr (λσ=>if mu σ.h v=Y6 all then .c .a σ else .b) λy q r σ=>if mu σ.h v=Y6 all then(b y σ).F (Bi r)else .b
section
variable{v:V}{all:Yb V}{b:V->St->Rs Fl}{σ:St}
set_option tactic.hygienic true in theorem Jt(h:mu σ.h v=some all):qc v all b [] σ=.c .a σ:=d9 h
theorem Ju{y:V}{r:Yb V}(h:mu σ.h v=Y6 all):qc v all b (y::r) σ=(b y σ).F (Bi<|qc v all b r):=d9 h
theorem Jv{l:Yb V}(h:qc v all b l σ≠.b):mu σ.h v=Y6 all:=by refine eO λq=>h ?_;clear h;cases l<;>exact d8 q
end
def np(v:V)(σ:St)(t e:St->Rs Fl):Rs Fl:=match nc σ.h v with|some Ye=>t σ|some Yc=>e σ|none=>.b
structure sw(K:L_)(C d:YF)(f:Y9->Y9):Prop where
 o:∃o es ep,K.lookup d=Y6 o/\o.cls=.ref C/\o.data=.dict es ep/\IntKeys es/\∀c:Y9,c<128->∃t,findBy pA es (c:Yh)=Y6 (.int (f c:Y9) t)b:n_ K (.ref C) "__getitem__"=Y6 (Y6<|.builtin "dict.__getitem__")e:subIn K (.ref C) (.type "collections.deque")=Y6 Yc
 g:subIn K (.ref C) (.type "dict")=Y6 Ye
 a:∀c,c<128->f c<128
def q8(f:Y9->Y9)(x:Yg):Yg:=⟨(x.cps.toList.map f).toArray⟩
def AB(v a b:Yg):Yj:=Yk (v.length+(v.length+1)*b.length<=16777216)&&Yk ((eL v a b).length<=k8)&&fH (eL v a b)
def BS:Yb (Yg×Yg)->Yg->Yd Yg:=lr Y6 λx q r v=>if AB v x.1 x.2 then r<|eL v x.1 x.2else Y8
def BU(f:Y9->Y9)(v:Yg):Yj:=v.cps.toList.all (λc=>Yk<|c<128)&&fH (q8 f v)
def AC(f:Y9->Y9)(ps:Yb<|Str×Yg)(v:Yg):Yd Yg:=if BU f v then BS ps (q8 f v)else Y8
structure Sx extends c:Cx where r:V->Yd (Y9->Y9)q:V->Yg->V->Hp->Yd Hp
def ve(v:V)(σ:St)(k:V->St->Rs Fl):Rs Fl:=match v with|.h xs=>k (.g σ.n)<|σ.add<|.a xs|_=>.b
set_option tactic.hygienic true in def vJ:Option St->Rs Fl|some σ=>.c .a σ|none=>.b
def AD(f:Fl)(σ:St)(k:St->Rs Fl):Rs Fl:=match f with|.a=>k σ|f=>.c f σ
def wF(v:V)(k:V->V->Rs Fl):Rs Fl:=match BP v with|some [a,b]=>k a b|_=>.b
set_option tactic.hygienic true in def Bj(x:Str)(σ:St):Rs Fl:=((σ.l.lookup x).bind<|xk σ.h).elim .b λq=>if q.2=[]then .b else .c .a {σ with o:=λj=>if j=q.1 then some (.a q.2.dropLast)else σ.o j}
def uj(u v:V):Ov:=match u with|.d a=>(qV v).elim .a λb=>.b<|.d<|a+b|.f a=>(kt v).elim .a λb=>if a.length+b.length<=k8 then .b<|.f (a++b)else .a|_=>.a
set_option tactic.hygienic true in def ex:S->Sx->St->Rs Fl:=@S.rec (λq=>Sx->St->Rs Fl)
 (λq σ=>.c .d σ)
 (λe cx σ=>(ev cx.c e σ).F λq a7=>.c .a a7)
 (λx e cx σ=>(ev cx.c e σ).F λv a7=>.c .a<|a7.F x v)
 (λx e cx σ=>(ev cx.c e σ).F λv a7=>ve v a7 λr a8=>.c .a<|a8.F x r)
 (λx e cx σ=>(ev cx.c e σ).F λv a7=>vJ<|a7.L x v)
 (λo f e cx σ=>(ev cx.c e σ).F λv a7=>(ev cx.c o a7).F λvo a8=>vJ<|(cx.q vo f v a8.h).map λH=>{a8 with h:=H})
 (λe cx σ=>(ev cx.c e σ).F λv a7=>.c (.b v) a7)
 (λc q q a b cx σ=>(ev cx.c c σ).F λv a7=>np v a7 (a cx)<|b cx)
 (λn c q q b o cx σ=>jN (tr<|ev cx.c c) (b cx) (o cx) n σ)
 (λx it q b cx σ=>(ev cx.c it σ).F λv a7=>match mu a7.h v with|some xs=>qc v xs (λu σ=>b cx<|σ.F x u) xs a7|none=>.b)
 (λe cx σ=>(ev cx.c e σ).F λv a7=>np v a7 (λa7=>.c .a a7)<|λq=>.b)
 (λq σ=>.c .a σ)
 (λq q a b cx σ=>(a cx σ).F λf a7=>AD f a7<|b cx)
 (λx y e cx σ=>(ev cx.c e σ).F λv a7=>wF v λa b=>.c .a<|(a7.F x a).F y b)
 (λq σ=>.c .c σ)
 (λq σ=>.c (.b .none) σ)
 (λx y e cx σ=>(ev cx.c e σ).F λv a7=>.c .a<|(a7.F x v).F y v)
 (λo f x e cx σ=>(ev cx.c e σ).F λv a7=>ve v a7 λr a8=>(ev cx.c o a8).F λvo aE=>vJ<|(cx.q vo f r aE.h).map λH=>({aE with h:=H}:St).F x r)
 (λx e cx σ=>(ev cx.c (.v x) σ).F λu aT=>(ev cx.c e aT).F λv a7=>((uj u v).st a7).F λr a8=>.c .a<|a8.F x r)
 (λo f o' J e cx σ=>(ev cx.c e σ).F λv a7=>wF v λa b=>(ev cx.c o a7).F λvo a8=>(vJ<|(cx.q vo f a a8.h).map λH=>{a8 with h:=H}).F λ_ aE=>(ev cx.c o' aE).F λI F=>vJ<|(cx.q I J b F.h).map λH=>{F with h:=H})
 (λx q σ=>Bj x σ)<|λx L ps q b cx σ=>match σ.l.lookup x with|some<|.f v=>(cx.p L).elim .b λvt=>(cx.r vt).elim .b λf=>(AC f ps v).elim .b λv'=>b cx<|σ.F x<|.f v'|_=>.b
structure ue(P:mx)(lv:Y9)(fr:Ln)(A:cG)(env:Zk):Prop extends Fm P lv fr A env where s:∃outer,A.frames=Y6 (env::outer)frame:env.frame=Y6 env.locals
section
variable{P:mx}{fr:Ln}{A:cG}{env:Zk}{W W':Wd}{σ σ':St}{s s':j8}{lv:Y9}
end
inductive Bk(W:Wd)(n:Y9):Fl->Flow->Prop|a:Bk W n .a .next|e:Bk W n .d .brk|d:Bk W n .c .cont|b{v:V}{c:n4}:VR W n v c->Bk W n (.b v) (.ret c)
structure tv(P:mx)(cx:Sx):Prop where
 e:∀v f,cx.r v=Y6 f->∃d K C,v=.m (.ref d)/\sw K C d f/\K.In P.B
 a:ui P cx.c
 b:∀fr A env,Fm P cx.j fr A env->∀W σ s,lb P fr W σ.h s->lm P env W σ s.heap->∀o f v co c H,VR W σ.n o co->VR W σ.n v c->cx.q o f v σ.h=Y6 H->∀(E:Pv)(Q:z_->j8->Prop),(∀W' s',kc P fr env W σ s W' {σ with h:=H} s'->Q () s')->Yi P.M A (setAttr co f c) Q E s
section
variable(P:mx)(fr:Ln)(env:Zk)(W:Wd)(σ:St)(s:j8)
inductive pi(r:Rs Fl)(f:Flow)(s':j8):Prop where|mk(v:Fl)(σ':St)(W':Wd)(h1:r=.c v σ')(h2:kc P fr env W σ s W' σ' s')(h3:Bk W' σ'.n v f)
end
def AE(P:mx)(fr:Ln)(A:cG)(env:Zk)(t:s_ Flow)(f:St->Rs Fl):Prop:=∀W σ s,lb P fr W σ.h s->lm P env W σ s.heap->f σ≠.b->Yi P.M A t (pi P fr env W σ s<|f σ) nu s
def QR(P:mx)(cx:Sx)(st:S)(fr:Ln)(A:cG)(env:Zk):Pt->Prop|.s x=>AE P fr A env (exec x env)<|ex st cx|.l x=>AE P fr A env (execs x env)<|ex st cx
def Bl(P:mx)(st:S)(sc:Yt)(pt:Pt):Prop:=∀cx:Sx,tv P cx->∀fr A env,ue P cx.j fr A env->qb sc env->QR P cx st fr A env pt
section
variable{P:mx}{fr:Ln}{A:cG}{env:Zk}{W W':Wd}{σ σ':St}{s s':j8}{cx:Sx}
theorem pi.elim{r:Rs Fl}{c:Flow}{s'':j8}{G:Prop}(h:pi P fr env W σ s r c s'')(k:∀v σ' W',r=.c v σ'->kc P fr env W σ s W' σ' s''->Bk W' σ'.n v c->G):G:=by cases h with|mk v σ' W' a b d=>exact k v σ' W' a b d
theorem pi.F{r:Rs Fl}{c:Flow}{s'':j8}(a:kc P fr env W σ s W' σ' s')(b:pi P fr env W' σ' s' r c s''):pi P fr env W σ s r c s'':=by obtain⟨v,u,W'',e,st,h⟩:=b;exact⟨v,u,W'',e,a.cr st,h⟩
theorem xZ{e:YJ}(h:FA e=Yc)(t:Yd YJ)(l:Y9)(env:Zk):swapsWith e t l env=Zg Yc:=by cases e<;>first|rfl|exact su h
theorem xG{E:Pv}(F:ue P cx.j fr A env)(I:lb P fr W σ.h s)(L:lm P env W σ s.heap){x:Yg}{v:V}{c:n4}(O:env.kindOf x=Y6 .local)(hv:VR W σ.n v c){Q:z_->j8->Prop}(S:∀s',kc P fr env W σ s W (σ.F x v) s'->Q () s'):Yi P.M A (B_ env x c) Q E s:=am L.l λm u q=>gQ O u (λT N J=>S _<|kc.jw I L F.f hv O u N J Y7 Y7)<|by erw[L.kind];rfl
theorem QS{E:Pv}(F:ue P cx.j fr A env)(I:lb P fr W σ.h s)(L:lm P env W σ s.heap){x:Yg}{v:V}{c:n4}{σ':St}(e:σ.L x v=Y6 σ')(S:env.kindOf x=Y6 .cell)(hv:VR W σ.n v c){Q:z_->j8->Prop}(hq:∀s',kc P fr env W σ s W σ' s'->Q () s'):Yi P.M A (B_ env x c) Q E s:=by obtain⟨k,p,hk,q,⟨O,u⟩,X⟩:=(by refine bC λJ=>?_;obtain⟨k,v0,hk,Z,rfl⟩:=Js e;obtain⟨p,q⟩:=L.e x k hk;obtain⟨_,ob,hg,N⟩:=I.o k _ Z;refine J<|⟨k,p,hk,q,by cases v0 with|some v=>obtain⟨d,hd,_⟩:=N;exact⟨_,_,hg,hd⟩|none=>exact⟨_,_,hg,N⟩,λs' hc hs U T=>?_⟩;refine bC λJ=>?_;obtain⟨o,e1,d1⟩:=hc;exact J<|kc.ju I L p F.f (.cell<|some v) (.cell d1 hv) (λb o Y e=>(hs.2 b Y).trans e) e1 U T:∃k,k<σ.n/\σ.e.lookup x=Y6 k/\(env.kindOf x=Y6 .cell\/env.kindOf x=Y6 .free->env.cells.lookup x=Y6 (W.c k))/\(∃O,s.heap.IsCell (W.c k) O)/\∀s':j8,s'.heap.IsCell (W.c k) (Y6 c)->mU (W.c k) s.heap s'.heap->s'.gens=s.gens->s'.os=s.os->kc P fr env W σ s W σ' s');exact wpAny_storeName_cell L.kind S (q<|.inl S) u λh' hc hs=>hq _<|X _ hc hs Y7 Y7
set_option genCtorIdx true in inductive ym where|l|e
def ym.u(t:ym)(σ:St)(x:Yg)(v:V):Yd St:=match t with|.l=>Y6<|σ.F x v|.e=>σ.L x v
def ym.kind:ym->dJ|.l=>.local|.e=>.cell
theorem wT{E:Pv}(t:ym)(F:ue P cx.j fr A env)(I:lb P fr W σ.h s)(L:lm P env W σ s.heap){x:Yg}{v:V}{c:n4}{σ':St}(e:t.u σ x v=Y6 σ')(u:env.kindOf x=Y6 t.kind)(hv:VR W σ.n v c){Q:z_->j8->Prop}(N:∀s',kc P fr env W σ s W σ' s'->σ'.n=σ.n->Q () s'):Yi P.M A (B_ env x c) Q E s:=by cases t with|l=>obtain rfl:=c0 e;exact xG F I L u hv λs' st=>N s' st Y7|e=>refine QS F I L e u hv λs' st=>N s' st<|bp (Js e) λq q q q J=>?_;subst J;rfl
theorem QT(L:lm P env W σ s.heap){x:Yg}{p:ZR}{v:YJ}{l:Y9}:∃b,swapsWith v (Y6<|.Name x p) l env=Zg b:=by cases v<;>exact⟨_,Y7⟩
set_option tactic.hygienic true in theorem QU(C:tv P cx)(F:ue P cx.j fr A env){sc cs:Scope}(S:qb sc env)(k:td)(t:ym){elt it cond:X}{y:Str}{e i:Expr}{ifs:List Expr}{x:Str}{p pos zp lp:Pos}(hi:Ok it sc<|.e i)(h2:Ok elt cs<|.e e)(h3:Ok cond cs<|.u ifs)(h4:kH y sc cs)(h1:kC i=false)(hx:env.kindOf x=some t.kind)(I:lb P fr W σ.h s)(L:lm P env W σ s.heap)(r:Rs Fl)(Y:r=(ev cx.c (.u elt y it cond) σ).F λu a7=>match u with|.h xs=>vJ<|t.u (k.st xs a7) x<|k.val xs a7|_=>.b)(T:r≠.b):wpAny P.M A (exec (.Assign [.Name x p] (.ListComp e [⟨.Name y zp,i,ifs,0⟩] cs lp) pos) env) (pi P fr env W σ s r) nu s:=by
 obtain hne':ev cx.c (.u elt y it cond) σ≠.b:=by rw[Y]at T;exact Rs.J T
 have put:∀{xs:Yb V}{a7:St},ev cx.c (.u elt y it cond) σ=.c (.h xs) a7->∃a8,t.u (k.st xs a7) x (k.val xs a7)=Y6 a8/\r=.c .a a8:=λ{xs a7}e=>by obtain Y:=e▸Y;have N:r=vJ (t.u (k.st xs a7) x<|k.val xs a7):=Y;cases hp:t.u (k.st xs a7) x (k.val xs a7)with|none=>rw[hp]at N;exact g9 N T|some a8=>rw[hp]at N;exact⟨a8,Y7,N⟩
 refine bn (QT (v:=.ListComp e [⟨.Name y zp,i,ifs,0⟩] cs lp) (x:=x) (p:=p) (l:=pos.line) L) λb U=>?_;cases b with|false=>refine lI ?_ U;refine yE (FU (vM h4).2) (ml C.a h2) (ml C.a hi) (ml C.a h3) F.toFm S (vM h4).1 h1 I L hne' λxs a7 a D aC a9 aI R=>?_;refine bn R.g λm hm=>⟨m,hm,λh' hs=>?_⟩;refine am (put<|tf.trans aI) λa8 hp bP=>bo ((R.N F.toFm hs).J k) λaG J aS z=>?_;refine wT t F J.f J.l hp hx aS λaL O z=>?_;erw[bP];exact⟨_,a8,aG,Y7,J.cr O,.a⟩|true=>erw[exec_Assign_Name_used _ _ _ _ U];refine g7<|fP<|g7<|g7<|yE (FU (vM h4).2) (ml C.a h2) (ml C.a hi) (ml C.a h3) F.toFm S (vM h4).1 h1 I L hne' λxs a7 a D aC a9 aI R=>?_;refine am (put<|tf.trans aI) λa8 hp bP=>?_;refine bo (R.d.J k) λaG J aS Z=>bC λn0=>?_;obtain⟨m,⟨oC,es,ep,eC,dC,rC⟩⟩:=R.g;refine n0 ?_;have oD:=Z D (gP R.h) R.c;refine eI<|wT t F J.f J.l hp hx aS λaL O cF=>?_;refine⟨m,⟨oC,es,ep,O.w.ext D oC eC (λq=>R.c.d<|q▸F.f) R.c.d oD.b,dC,rC⟩,λh' hs=>j6<|j6 ?_⟩;erw[bP];exact⟨_,a8,aG,Y7,(J.cr O).ds F.f R.f (oD.step eC O.w) (λb o U e=>(hs.2 b U).trans e) Y7 Y7,.a⟩
set_option tactic.hygienic true in theorem QV{c:Cx}{elt it cond:X}{y:Str}{σ:St}{v:V}{σ':St}(h:ev c (.u elt y it cond) σ=.c v σ'):∃xs,v=.h xs:=by replace h:=tf.symm.trans h;unfold Bh at h;.cases h1:ev c it σ with
  |c vi a7=>
   rw[h1,Rs.u Y7]at h;split at h;.rename_i xs _;cases h2:nd vi xs (Bg c elt (FK y) cond a7.e) xs a7 with|c vs a8=>replace h:=Rs.u Y7▸h2▸h;unfold pf at h;split at h<;>cases h;exact⟨_,Y7⟩|b=>replace h:=h2▸h;cases h
   .cases h|b=>replace h:=h1▸h;cases h
theorem Jw(C:tv P cx)(F:ue P cx.j fr A env){sc:Yt}(S:qb sc env)(t:ym){e:X}{v:YJ}{x:Yg}{p pos:ZR}(h:Ok e sc<|.e v)(hc:FA v=Yc)(T:env.kindOf x=Y6 t.kind)(I:lb P fr W σ.h s)(L:lm P env W σ s.heap)(J:((ev cx.c e σ).F λu a7=>vJ<|t.u a7 x u)≠.b):Yi P.M A (exec (.Assign [.Name x p] v pos) env) (pi P fr env W σ s<|(ev cx.c e σ).F λu a7=>vJ<|t.u a7 x u) nu s:=by refine lI (zX (ml C.a h fr A env F.toFm S).1 I L J λu c V a7 a9 U N Y=>?_)<|xZ hc ..;rw[Rs.u U]at J|-;cases hp:t.u a7 x u with|none=>rw[hp]at J;exact g9 Y7 J|some a8=>exact wT t F N.f N.l hp T Y λZ O q=>⟨_,a8,V,Y7,N.cr O,.a⟩
theorem Jy(C:tv P cx)(F:ue P cx.j fr A env){sc:Yt}(S:qb sc env){es:X}{l:Yb YJ}{p:ZR}(h:Ok es sc<|.es l)(I:lb P fr W σ.h s)(L:lm P env W σ s.heap)(u:ev cx.c (.r es) σ≠.b){Q:Pv}{E:Pv}(J:∀xs σ' a W' s',ev cx.c (.r es) σ=.c (.h xs) σ'->zm P fr env W σ s xs σ' a W' s'->Q (.ref a) s'):Yi P.M A (Z7 (.List l p) env) Q E s:=by obtain Je:=(ml C.a h fr A env F.toFm S) p;obtain hev:ev cx.c (.r es) σ=(ev cx.c es σ).F λvs a7=>jL vs a7 λxs a7=>pf xs.length<|.c (.h xs) a7:=Y7;rw[hev]at u J;refine List_<|vX Je.2.2 I L u λxs cs W' σ' s' e st hv=>?_;rw[e]at u J;obtain⟨hz,r⟩:=BR u;rw[r]at J;obtain nA:=xH _;refine gI (J xs σ' _ W' _ Y7 ⟨st.cr<|kc.jt st.f st.l _ Y7 Y7 Y7,?_,qi.new st.f nA,⟨cs.toArray,0,eX _ Y7,by simpa using hv⟩,hz⟩) (by show cs.toArray.size<=k8;erw[dT];exact by erw[hv.N];exact hz);cases q:s.heap.get? s'.heap.objs.size with|none=>rfl|some o=>obtain⟨o',N⟩:=st.w.f _ _ q;replace N:=nA▸N;cases N
theorem QW(C:tv P cx)(F:ue P cx.j fr A env){sc:Yt}(S:qb sc env)(t:ym){es:X}{l:Yb YJ}{x:Yg}{p pos r:ZR}(h:Ok es sc<|.es l)(T:env.kindOf x=Y6 t.kind)(I:lb P fr W σ.h s)(L:lm P env W σ s.heap)(J:((ev cx.c (.r es) σ).F λu a7=>ve u a7 λr a8=>vJ<|t.u a8 x r)≠.b):Yi P.M A (exec (.Assign [.Name x p] (.List l r) pos) env) (pi P fr env W σ s<|(ev cx.c (.r es) σ).F λu a7=>ve u a7 λr a8=>vJ<|t.u a8 x r) nu s:=by refine lI (Jy C F S h I L (Rs.J J) λxs a7 a aC a9 U R=>?_)<|xZ Y7 ..;rw[Rs.u U]at J|-;obtain hr:ve (.h xs) a7 (λr a8=>vJ<|t.u a8 x r)=vJ (t.u (td.a.st xs a7) x<|td.a.val xs a7):=Y7;rw[hr]at J|-;refine bo (R.J .a) λV N Y q=>?_;cases hp:t.u (td.a.st xs a7) x (td.a.val xs a7)with|none=>rw[hp]at J;exact g9 Y7 J|some a8=>exact wT t F N.f N.l hp T Y λZ O q=>⟨_,a8,V,Y7,N.cr O,.a⟩
section
variable{sc cs:Yt}{elt it cond:X}{y:Yg}{e i:YJ}{ifs:Yb YJ}{x:Yg}{p q zp lp:ZR}(hi:Ok it sc<|.e i)(h2:Ok elt cs<|.e e)(h3:Ok cond cs<|.u ifs)(h4:kH y sc cs=Ye)(h5:kC i=Yc)
include hi h2 h3 h4 h5
end
end
section
variable{P:mx}{fr:Ln}{A:cG}{env:Zk}{W W':Wd}{σ σ':St}{s s':j8}{cx:Sx}
theorem QX{v:V}{σ:St}{t e:St->Rs Fl}(h:np v σ t e≠.b):nc σ.h v=Y6 Ye/\np v σ t e=t σ\/nc σ.h v=Y6 Yc/\np v σ t e=e σ:=by unfold np at h|-;revert h;cases nc σ.h v with|none=>exactλh=>g9 Y7 h|some t=>cases t with|true=>exactλq=>.inl ⟨Y7,Y7⟩|false=>exactλq=>.inr ⟨Y7,Y7⟩
theorem JA{c:Cx}{e:X}{t f:St->Rs Fl}{σ:St}(h:((ev c e σ).F λv a7=>np v a7 t f)≠.b):tr (ev c e) σ≠.b:=by cases u:ev c e σ with|c v a7=>rw[u]at h;erw[yJ u];rcases QX (h:np v a7 _ _≠.b)with⟨q,_⟩|⟨q,_⟩<;>erw[zO q]<;>intro F<;>cases F|b=>rw[u]at h;exact g9 Y7 h
theorem QY{c:St->Rs Yj}{b o:St->Rs Fl}{N:YJ}{body F:Yb YW}(hc:xj P fr A env (ZJ N env<|eval N env) c)(Z:AE P fr A env (execs body env) b)(ho:AE P fr A env (execs F env) o)(n:Y9)(I:lb P fr W σ.h s)(L:lm P env W σ s.heap)(J:jN c b o n σ≠.b){pos:ZR}:Yi P.M A (exec (.While N body F pos) env) (pi P fr env W σ s<|jN c b o n σ) nu s:=by refine wpAny_While ?_;generalize hr:jN c b o n σ=r at J;refine codeAny_whileLoop (λk s'=>∃W' σ',kc P fr env W σ s W' σ' s'/\jN c b o k σ'=r) ?_ n ⟨W,σ,kc.cB I L,hr⟩;rintro k a9⟨aC,a7,aA,u⟩;cases k with|zero=>exact g9 (u.symm.trans Y7) J|succ k=>obtain u:(c a7).F (λt σ=>if t then(b σ).F<|Bi (jN c b o k)else o σ)=r:=u;refine m8 (hc aC a7 a9 aA.f aA.l<|by intro q;rw[q]at u;exact J u.symm) (λbb V T=>T.elim λa8 X Y aB=>?_)<|λe s' h=>h.elim;rw[Y]at u;have st:=aA.cr aB;cases bb with
  |true=>replace u:(b a8).F (Bi<|jN c b o k)=r:=u;refine m8 (Z X a8 V st.f st.l<|by intro q;rw[q]at u;exact J u.symm) (λf aL T=>T.elim λfl aE O aO S U=>?_)<|λe s' h=>h.elim;rw[aO]at u;cases U with|a=>exact⟨k,u8 _,O,aE,st.cr S,u⟩|d=>exact⟨k,u8 _,O,aE,st.cr S,u⟩|e=>exact⟨_,aE,O,u.symm,st.cr S,.a⟩|b hv=>exact⟨_,aE,O,u.symm,st.cr S,.b hv⟩
  |false=>replace u:o a8=r:=u;refine m8 (ho X a8 V st.f st.l<|by rw[u];exact J) (λf aL U=>?_)<|λe s' h=>h.elim;refine u▸?_;exact U.F st
inductive AF(P:mx)(fr:Ln)(env:Zk)(W:Wd)(σ:St)(s:j8)(v:V)(xs:Yb V)(Ia:Y9)(b:V->St->Rs Fl)(r:Rs Fl)(k:Y9)(s':j8):Prop where|mk(W':Wd)(σ':St)(j:Y9)(h1:k=xs.length+1-j)(h2:j<=xs.length)(h3:kc P fr env W σ s W' σ' s')(h4:qi P fr W' σ'.n Ia)(h5:qj W' σ'.n s'.heap Ia v j)(h6:qc v xs b (xs.drop j) σ'=r)
theorem QZ{b:V->St->Rs Fl}{b':St->Rs Fl}{tg:YJ}{body:Yb YW}(hh:A.handled=Y8)(F:ue P cx.j fr A env)(ha:∀W σ s y c,lb P fr W σ.h s->lm P env W σ s.heap->VR W σ.n y c->b y σ≠.b->∀(Q:z_->j8->Prop)(E:Pv),(∀s' σ',kc P fr env W σ s W σ' s'->σ'.n=σ.n->b y σ=b' σ'->Q () s')->Yi P.M A (assign tg env c) Q E s)(ab:∀(s:j8)(σ:St)(W:Wd)(n:Y9)(u v:V)(i Ia:Y9)(c:n4)(Q:z_->j8->Prop)(E:Pv),qj W n s.heap Ia v i->b u σ≠.b->VR W σ.n u c->Q () s->Yi P.M A (Zz tg (.ref Ia) c) Q E s)(T:AE P fr A env (execs body env) b'){v:V}{cv:n4}{xs:Yb V}(hv:VR W σ.n v cv)(I:lb P fr W σ.h s)(L:lm P env W σ s.heap)(S:qc v xs b xs σ≠.b){E:Pv}:Yi P.M A (pyIter cv) (λit aH=>Q_ P.M A (.forLoop tg it body [] env) (λr s'=>match r with|.ok f=>pi P fr env W σ s (qc v xs b xs σ) f s'|.error e=>cameBackBy P.M A env E e s') aH) E s:=by obtain hits:=Jv S;generalize hr:qc v xs b xs σ=r at S;refine Jj I hv hits λob a4=>?_;obtain nI:=xH _;obtain oI:=qi.new I nI;generalize as:s.heap.objs.size=Ia at a4 nI oI;refine codeAny_forLoop_any (AF P fr env W σ s v xs Ia b r) ?_ (xs.length+1) ⟨W,σ,0,Y7,v8 _,(kc.jt I L _ Y7 Y7 Y7:kc P fr env W σ s W σ {s with heap:=s.heap.push ob}),oI,a4,hr⟩;rintro k a9⟨aC,a7,j,rfl,hj,aA,aZ,cH,J⟩;have bH:mu a7.h v=Y6 xs:=Jv (b:=b) (l:=xs.drop j) (by rw[J];exact S);cases N:xs[j]? with|none=>rw[(mW<|List.getElem?_eq_none_iff.mp N:xs.drop j=[])]at J;rw[Jt bH]at J;refine Jm hh aA.f cH bH N λh' hk=>wpAny_execs_nil ?_;refine⟨_,a7,aC,J.symm,aA.ds F.f nI aZ (λb o T e=>hk b o T e) Y7 Y7,.a⟩|some y=>
  obtain hlt:j<xs.length:=(Yv.mp N).1;replace J:=(by rw[dK hlt,(Yv.mp N).2]:xs.drop j=y::xs.drop (j+1))▸J;rw[Ju bH]at J;refine Jk aA.f cH bH N λc b7 bM a2 bB b9=>?_;have aB:kc P fr env W σ s aC a7 {a9 with heap:=b7,toks:=bM}:=aA.ds F.f nI aZ (λb o T e=>(b9.2 b T).trans e) Y7 Y7;have O:b y a7≠.b:=by intro q;rw[q]at J;exact S J.symm
  refine ab _ a7 aC _ y v (j+1) Ia c _ _ bB O a2 ?_;refine ha aC a7 _ y c aB.f aB.l a2 O _ _ λaL a8 Y en eb=>?_;rw[eb]at J O;obtain cW:=aB.cr Y;have a3:Ia≠env.locals:=λq=>aZ.d<|q▸F.f;have bQ:qi P fr aC a8.n Ia:=by rw[en];exact aZ
  have cI:=bB.mono (.I ..) (eJ en.symm) λo e=>Y.w.ext Ia o e a3 aZ.d aZ.b;refine m8 (T aC a8 aL Y.f Y.l O) (λf aV zq=>zq.elim λfl Z aW aX U hf=>?_)<|λe s' h=>h.elim;rw[aX]at J;obtain⟨d5,cX⟩:=cI.O;have X:=cW.cr U;obtain cJ:=bQ.step cX U.w;obtain cK:=cI.mono U.w.d U.w.le λo e=>U.w.ext Ia o e a3 bQ.d bQ.b;cases hf with|a=>exact⟨xs.length+1-(j+1),eg hj,aW,Z,j+1,Y7,hlt,X,cJ,cK,J⟩|d=>exact⟨xs.length+1-(j+1),eg hj,aW,Z,j+1,Y7,hlt,X,cJ,cK,J⟩|e=>exact⟨_,Z,aW,J.symm,X,.a⟩|b hv=>exact⟨_,Z,aW,J.symm,X,.b hv⟩
theorem FV{v:V}{k:V->V->Rs Fl}(h:wF v k≠.b):∃a b,BP v=Y6 [a,b]/\wF v k=k a b:=by unfold wF at h|-;revert h;cases BP v with|none=>exactλh=>g9 Y7 h|some l=>cases l with|nil=>exactλh=>g9 Y7 h|cons a r=>cases r with|nil=>exactλh=>g9 Y7 h|cons b r=>cases r with|nil=>exactλq=>⟨a,b,Y7,Y7⟩|cons=>exactλh=>g9 Y7 h
theorem FW(H:A.handled=Y8)(I:lb P fr W σ.h s)(L:lm P env W σ s.heap){v a b:V}{c:n4}(h:VR W σ.n v c)(e:BP v=Y6 [a,b]):∃t u F,c=.ref t/\VR W σ.n a u/\VR W σ.n b F/\∀{E:Pv}{Q:Lv->j8->Prop},(∀s',kc P fr env W σ s W σ s'->Q [u,F] s')->Yi P.M A (unpackItems (.ref t) 2 Y8) Q E s:=by have J:=h.Z;clear h;cases v with|n=>refine dh J λt o items S N h1 h2 h3 h4 h5=>?_;subst N;refine bC λT=>?_;obtain rfl:=c0 e;obtain⟨l⟩:=items;refine T<|bp (ll.Z h5) λu F e2 x y=>?_;have O:l=[u,F]:=e2;subst O;exact⟨t,u,F,Y7,x,y,λU=>wpAny_unpackItems_tuple H (items:=#[u,F]) ⟨o,(I.g _ _ h1).1,h2,S,h3⟩ λJ X=>U _<|kc.grow I L (λb o e=>X b o (v9<|rA e) e) Y7 Y7⟩|_=>exact lz e
set_option tactic.hygienic true in theorem R3{x y:Str}{f:St->Rs V}{T X q p:Pos}{k:Nat}{v:Expr}(F:ue P cx.j fr A env)(hx:env.kindOf x=some .local)(hy:env.kindOf y=some .local)(J:q7 P fr A env (eval v env) f)(Y:swapsWithSole [.Tuple [.Name x T,.Name y X] k q] v p.line env=pure false)(hw:swappedStores [.Tuple [.Name x T,.Name y X] k q] v env=pure none):AE P fr A env (exec (.Assign [.Tuple [.Name x T,.Name y X] k q] v p) env)<|λσ=>(f σ).F λv a7=>wF v λa b=>.c .a<|(a7.F x a).F y b:=by intro W σ s I L N;refine Assign_Tuple (zX J I L N λu c aC a7 a9 aI O hv=>?_) Y hw;dsimp only at N;rw[Rs.u aI]at N;refine bw (FV N) λa b hp hr=>cj (FW F.b O.f O.l hv hp) λt ca cb a0 ha Z hU=>?_;subst a0;refine g7<|fP<|g7<|v7<|hU λaH U=>?_;refine g7<|v7<|eI<|xG F U.f U.l hx ha λaL S=>g7<|v7<|eI<|xG F S.f S.l hy Z λaV aP=>?_;exact j6 ⟨_,_,aC,(Rs.u (f:=λv a7=>wF v λa b=>Rs.c Fl.a<|(a7.F x a).F y b) aI).trans hr,((O.cr U).cr S).cr aP,.a⟩
theorem kc.jy{x y:Yg}{a b:V}(F:x≠y)(st:kc P fr env W σ s W' ((σ'.F y b).F x a) s'):kc P fr env W σ s W' ((σ'.F x a).F y b) s':=by
 refine⟨st.w,st.f,⟨st.l.kind,st.l.g,st.l.f,?_,st.l.e,st.l.d⟩⟩;refine am st.l.l λm h1 h2=>⟨m,h1,λz v hz=>h2 z v ?_⟩;have u:(yP y b<|yP x a σ'.l).lookup z=Y6 v:=hz;show(yP x a<|yP y b σ'.l).lookup z=Y6 v;rw[ku,ku]at u|-;by_cases h1:z=x;.subst h1;refine bj Y7 ?_;rw[d8 F,d9 Y7]at u;exact u
 .refine bk h1 ?_;by_cases h2:z=y;.rw[d9 h2]at u|-;exact u
  .rw[d8 h1]at u;exact u
theorem R4{env:Zk}{x y:Yg}{u F q r:ZR}{k V:Y9}{a b:YJ}(I:Fy a b)(h4:x≠y)(h5:u.line=F.line)(J:env.blockKind=.function)(U:env.kindOf x=Y6 .local)(hy:env.kindOf y=Y6 .local):swappedStores [.Tuple [.Name x u,.Name y F] k q] (.Tuple [a,b] V r) env=Zg (Y6 [x,y]):=by
 unfold Fy at I;simp only[j0,fU]at I;refine bC λT=>?_;obtain⟨⟨⟨L,N⟩,S⟩,O⟩:=I;refine T ?_;obtain hdup:([x,y]:Yb Yg).eraseDups.length=2:=by simp[List.eraseDups_cons,by simpa using gP h4]
 obtain k0:(env.kindOf x==Y6 NameKind.local&&u.line==u.line)=Ye:=by erw[U];simp
 obtain k1:(env.kindOf y==Y6 NameKind.local&&F.line==u.line)=Ye:=by erw[hy];simp[h5]
 obtain hm:∀g:YJ->Yd Yg,g (.Name x u)=Y6 x->g (.Name y F)=Y6 y->[Expr.Name x u,.Name y F].filterMap g=[x,y]:=λg e1 e2=>by refine zJ5 (pF e1)<|zJ5 (pF e2) ?_;rfl
 obtain any:∀g:YJ->Yj,g a=Yc->g b=Yc->¬[a,b].any g=Ye:=λg e1 e2=>by show¬(g a||(g b||false))=Ye;refine zJ5 e1<|zJ5 e2 ?_;decide
 obtain all:∀g:YJ->Yj,(g a&&g b)=Yc->¬[a,b].all g=Ye:=λg e=>by show¬(g a&&(g b&&Ye))=Ye;rw[pG,e];decide
 delta swappedStores;refine J.symm▸?_;refine(d8<|λq=>Bool.noConfusion<|q).trans<|(d8<|any _ L N).trans ?_;dsimp only;refine zJ5 (hm _ (d9 k0)<|d9 k1)<|zJ5 hdup ?_;exact(d8<|λq=>Bool.noConfusion<|q).trans<|(d8<|all _ S).trans<|d8<|all _ O
set_option tactic.hygienic true in theorem R5{x y:Str}{f:St->Rs V}{T X q p:Pos}{k:Nat}{v:Expr}(F:ue P cx.j fr A env)(hx:env.kindOf x=some .local)(hy:env.kindOf y=some .local)(a1:x≠y)(J:q7 P fr A env (eval v env) f)(Y:swapsWithSole [.Tuple [.Name x T,.Name y X] k q] v p.line env=pure false)(hw:swappedStores [.Tuple [.Name x T,.Name y X] k q] v env=pure (some [x,y])):AE P fr A env (exec (.Assign [.Tuple [.Name x T,.Name y X] k q] v p) env)<|λσ=>(f σ).F λv a7=>wF v λa b=>.c .a<|(a7.F x a).F y b:=by intro W σ s I L N;refine Assign_Tuple_swapped (names:=[x,y]) (zX J I L N λu c aC a7 a9 aI O hv=>?_) Y hw;dsimp only at N;rw[Rs.u aI]at N;refine bw (FV N) λa b hp hr=>?_;refine cj (FW F.b O.f O.l hv hp) λt ca cb a0 ha Z hU=>?_;subst a0;refine hU λaH U=>?_;refine g7<|v7<|bindName_<|xG F U.f U.l hy Z λaL S=>?_;refine g7<|v7<|bindName_<|xG F S.f S.l hx ha λaV aP=>?_;exact j6 ⟨_,_,aC,(Rs.u aI).trans hr,kc.jy a1<|((O.cr U).cr S).cr aP,.a⟩
def yn(cx:Sx)(o:X)(f:Yg)(v:V)(σ:St):Rs Fl:=(ev cx.c o σ).F λvo a8=>vJ<|(cx.q vo f v a8.h).map λH=>{a8 with h:=H}
set_option tactic.hygienic true in theorem FX(C:tv P cx)(F:ue P cx.j fr A env){sc:Scope}(S:qb sc env){o:X}{t:Expr}{f:Str}{p:Pos}(h1:Ok o sc<|.e t)(I:lb P fr W σ.h s)(L:lm P env W σ s.heap){v:V}{c:n4}(hv:VR W σ.n v c)(u:yn cx o f v σ≠.b){Q:Unit->j8->Prop}(N:∀W' σ' s',yn cx o f v σ=.c .a σ'->kc P fr env W σ s W' σ' s'->Q () s'):wpAny P.M A (assign (.Attribute t f p) env c) Q nu s:=by unfold yn at u N;refine g7<|v7<|zX (ml C.a h1 fr A env F.toFm S).1 I L u λvo co aC a7 a9 Z J O=>?_;rw[Rs.u Z]at u N;refine g7<|fP<|g7<|v7 ?_;cases hp:cx.q vo f v a7.h with|none=>rw[hp]at u;exact g9 rfl u|some Hn=>rw[hp]at N;exact C.b fr A env F.toFm aC a7 a9 J.f J.l vo f v co c Hn O (hv.mono J.w.d J.w.le) hp _ _ λT U Y=>wpAny_release'<|N T _ U rfl<|J.cr Y
theorem ll.cr{W:Wd}{n:Y9}{xs:Yb V}{cs:Lv}(h:ll W n xs cs):ll W n xs.dropLast cs.dropLast:=by refine zJ5 nG<|zJ5 nG<|zJ5 h.N ?_;exact h.d7 _
theorem R6(n:Y9):YL (-1) (n+1)=Y6 n:=by unfold YL;erw[(by refine bj iu ?_;simp+arith:(if(-1:Yh)<0 then(-1:Yh)+((n+1:Y9):Yh)else-1)=(n:Yh))];exact(d9<|by rw[j0];exact⟨i7<|cD n,i7<|by simp+arith⟩).trans<|i6 Y6<|eH _
theorem R7{sc:Yt}{x:Yg}{q cL bR bD p:ZR}{k:Y9}(h:zD x&&sc.names.lookup x==Y6 .local):Bl P (.t x) sc<|.s<|.Delete [.Subscript (.Name x q) (.UnaryOp .USub (.Constant (.int 1) k cL) bR) bD] p:=by intro cx C fr A env F S W σ s I L a0;have J:Bj x σ≠.b:=a0;show Yi _ _ _ (pi P fr env W σ s<|Bj x σ) _ _;unfold Bj at J|-;refine bC λV=>?_;obtain⟨⟨j,zs⟩,e0⟩:=qP J;obtain⟨v,hl,Z⟩:=ji e0;obtain⟨rfl,ho⟩:=jB Z;refine V ?_;rw[e0]at J|-;cases zs with|nil=>exact g9 Y7 J|cons y ys=>
 have e1:ev cx.c (.v x) σ=.c (.g j) σ:=by show(match σ.l.lookup x with|some v=>Rs.c v σ|Option.none=>.b)=_;exact zJ5 hl Y7
 obtain e2:∀σ,ev cx.c (.B<|.k 1) σ=.c (.d<|-1) σ:=λσ=>Y7;refine wpAny_Delete<|wpAny_deleteEach_cons ?_;refine g7<|m8 ((ml C.a (.v h) fr A env F.toFm S).1 W σ s I L<|by rw[e1];nofun) (λbO a9 X=>X.elim λd6 a7 aC O U cY=>?_) λe s' h=>h.elim;rw[e1]at O;injection O with O h_;subst O h_;refine g7<|v7<|m8 ((ml C.a (.I .H) fr A env F.toFm S).1 aC σ a9 U.f U.l<|by rw[e2];nofun) (λcT aH X=>X.elim λd7 a8 aG Y N aS=>?_) λe s' h=>h.elim;injection Y with Y h_;subst Y h_;refine bC λV=>?_;obtain⟨rfl,hk⟩:=cY.cB;obtain⟨u,rfl⟩:=aS.U;obtain⟨_,ob,hg,hr⟩:=N.f.o j _ ho;refine V ?_;refine bp hr.I λitems e a3 r z=>?_;subst a3;have T:items.size=ys.length+1:=by have:=r.N;exact this
 rw[(N.w.d.d j hk).symm];refine g7<|fP<|g7<|v7<|delItem_at (n:=e) hg iu (by rw[T];exact R6 _) (λh' hs a4=>wpAny_release<|wpAny_deleteEach_nil ?_) z;have a2:(items.toList.eraseIdx ys.length).toArray.toList=items.toList.dropLast:=by
  obtain hl':items.toList.length=ys.length+1:=by exact T
  rw[nG,hl',mJ,List.eraseIdx_eq_take_drop_succ,mW<|by rw[hl'];exact j7 _,eY]
 exact⟨_,_,aG,Y7,(U.cr N).cr<|kc.ju N.f N.l (k:=j) (N.f.o j _ ho).1 F.f (.a (y::ys).dropLast) (.J (e:=e+1) (by rw[a2];exact r.cr)<|by exact g8 (List.length_eraseIdx_le _ _)<|by exact z) (λb o hb e'=>(hs.2 b hb).trans e') a4 Y7 Y7,.a⟩
end
theorem R8{M:Zb}{A:cG}{E:Pv}{s:j8}{i owner n:YA}{self:n4}{rest:Lv}{kw:Yb<|Str×n4}{Q:z_->j8->Prop}(hk:I_ i=Y6 .method)(hs:splitId i=Y6 (owner,n))(hi:Looks M s.heap (isInstance self<|.type owner) Ye)(F:argsOk i ⟨self::rest,kw⟩)(q:Q () s):Yi M A (checkBuiltinCall i ⟨self::rest,kw⟩) Q E s:=by simp only[checkBuiltinCall,hk,hs];refine g7<|hi.here ?_;cases u:iQ i with|none=>exact j6 q|some I=>simp only[argsOk,u]at F;exact dX F q
section
variable{prog:lG}{w:YB}{A:cG}{E:Pv}{s:j8}{K:L_}{C d:YF}{f:Y9->Y9}
theorem R9(T:sw K C d f)(X:K.In s.heap){c:Y9}(hc:c<128){t:b_}{Q:Yd n4->j8->Prop}(L:∀u,Q (Y6<|.int (f c:Y9) u) {s with toks:=s.toks+1}):Yi (Zs prog w) A (dictGet d<|.int c t) Q E s:=by
 refine dx T.o λo es O N q hd hk hv=>bC λJ=>?_;obtain⟨u,F⟩:=hv c hc;refine J ?_;obtain ho':=X _ _ N;try with_reducible refine v7 ?_
 refine g7<|wpAny_pyHash_int<|g7<|wpAny_dictFind_int ho' hd hk ?_;rw[findBy_of_findIdx?]at F;cases hi:es.findIdx? λe=>pA c e.key with|none=>replace F:=hi▸F;cases F|some i=>rw[hi]at F;refine g7<|wpAny_dictEntries ho' hd<|j6 ?_;have I:es[i]?.map (·.val)=Y6 (.int (f c:Y9) u):=F;erw[I];exact L u
theorem Ra(T:sw K C d f)(X:K.In s.heap){c:Y9}(hc:c<128){t:b_}{Q:Pv}(J:∀u,Q (.int (f c:Y9) u) {s with toks:=s.toks+1}):Yi (Zs prog w) A (getItem (.ref d)<|.int c t) Q E s:=by
 refine cy T.o λo es L I F q=>?_;obtain LT:Looks (Zs prog w) s.heap (typeOf<|.ref d)<|.ref C:=looks_typeIn X (by show(K.lookup d).map (·.cls)=_;erw[I];exact i6 Y6 F);unfold getItem;try with_reducible refine v7<|g7 ?_
 refine g7<|LT.here<|g7<|(anyM_none (l:=seqItemTypes) X<|by refine zJ5 fK<|zJ5 T.e<|zJ5 List.all_nil ?_;decide).here<|j6<|g7 ?_;unfold callSpecial? specialOf;refine g7<|g7<|LT.here<|(looks_findIn X T.b).here<|v7<|g7 ?_;refine j6<|g7<|mI<|nS PySem.slot_dict_getitem.plain PySem.entry_dict_getitem<|R8 (i:="dict.__getitem__") (self:=.ref d) (rest:=[.int c t]) (kw:=[]) (owner:="dict") (n:="__getitem__") jg jg (looks_instIn X<|by show((K.lookup d).map (·.cls)).bind _=_;erw[I];show subIn K o.cls _=_;erw[F];exact T.g) (PySem.args_dict_getitem (.ref d)<|.int c t) ?_;show Yi _ _ (dictGet d (.int c t)>>=_) _ _ s;exact g7<|R9 T X hc λu=>j6<|j6<|j6<|J u
end
def FY(f:Y9->Y9)(s:j8)(all:Ln)(rest:Ln)(b:Yb Yg×Y9×Yj×Yb (Y9×Yd Y9)×Yj)(s':j8):Prop:=∃u,all=u++rest/\b.1=(u.map λc=>({cps:=#[f c]}:Yg)).reverse/\b.2.1=u.length/\b.2.2.1=Ye/\(∀c a,b.2.2.2.1.lookup c=Y6 a->a=Y6 (f c))/\∃k,s.toks<=k/\s'={s with toks:=k}
theorem Rb(f:Y9->Y9):∀(l:Ln)(a:Yp Y9),(l.map λc=>({cps:=#[f c]}:Yg)).foldl (λacc p=>acc++p.cps) a=a++(l.map f).toArray:=by intro F;induction F with|nil=>intro a;rfl|cons c l u=>intro a;simp only[gH,rH,u,gH];apply Array.toList_inj.mp;simp
theorem Rc(f:Y9->Y9)(l:Ln):(l.map λc=>({cps:=#[f c]}:Yg)).foldl (λacc p=>acc++p.cps) #[]=(l.map f).toArray:=by rw[Rb];simp
section
variable{prog:lG}{w:YB}{A:cG}{E:Pv}{s:j8}{K:L_}{C d:YF}{f:Y9->Y9}
theorem Rd(T:sw K C d f)(X:K.In s.heap){c:Y9}(hc:c<128){Q:Builtin.Str.Mapped->j8->Prop}(F:Q (.char<|f c) {s with toks:=s.toks+2}):Yi (Zs prog w) A (Builtin.Str.tableLookup (.ref d) c) Q E s:=by refine g7<|wpAny_attempt<|g7<|oY<|Ra T (s:={s with toks:=s.toks+1}) X hc λu=>g7<|dX Y7 ?_;dsimp only;rw[d8<|by simp;exact Z9.mpr<|bu<|T.a c hc];exact j6 F
set_option tactic.hygienic true in theorem Rf(T:sw K C d f)(X:K.In s.heap){x:Str}{t:Tok}(Z:∀c∈x.cps.toList,c<128)(U:x.length<=k8){Q:Fin->j8->Prop}(h0:x.length=0->Q (.done<|.ret<|.str x t) s)(h1:0<x.length->∀k,s.toks<=k->Q (.done<|.ret<|.str (q8 f x) k) {s with toks:=k+1}):wpAny (model prog w) A (Builtin.«str.translate» ⟨[.str x t,.ref d],[]⟩) Q E s:=by
 unfold Builtin.«str.translate»;refine g7<|dX (a:=(.str x t,x,.ref d)) Y7 ?_;by_cases hz:x.length=0;.exact wpAny_ite_true (i7<|beq_iff_eq.mpr hz)<|g7<|sO<|j6<|h0 hz
 .refine rI (n9 λq=>hz<|beq_iff_eq.mp q)<|g7<|m8 (Q:=λb s'=>FY f s x.cps.toList [] b s') ?_ ?_ λy y z=>z;.refine mO _ (FY f s x.cps.toList) _ ?_ (λb s' h=>h) x.cps _ ⟨[],Y7,Y7,Y7,by rw[Array.all_eq_true'];intro c hc;exact i7<|Z c<|Array.mem_toList_iff.mpr hc,λy y e=>lz e,s.toks,j7 _,Y7⟩;rintro c rest⟨ps,n,S,u,J⟩s'⟨F,e1,rfl,rfl,rfl,h5,k,hk,rfl⟩;obtain hc:=Z c (by rw[e1];exact gR _<|.head _);have L:∀(O:Yb<|Nat×Yd Y9)N,s.toks<=N->(∀c a,O.lookup c=Y6 a->a=Y6 (f c))->FY f s x.cps.toList rest (({cps:=#[f c]}:Yg)::(F.map λc=>({cps:=#[f c]}:Yg)).reverse,F.length+1,Ye,O,J) {s with toks:=N}:=λO N Y V=>⟨F++[c],by rw[e1];simp,by simp,by simp,Y7,V,N,Y,Y7⟩;refine rI (n9<|by unfold mB;simpa using g8 (m7 _<|_+1)<|g8 (eJ<|(by rw[e1];simp:x.cps.toList.length=F.length+(rest.length+1)).symm.trans n8) U)<|wpAny_ite_true (i7 Y7) ?_;cases I:u.lookup c with|some a=>obtain rfl:=h5 _ _ I;exact g7<|j6<|j6<|L u k hk h5|none=>
    refine g7<|Rd T (s:={s with toks:=k}) X hc ?_;dsimp(config:={zeta:=Yc})only;refine(d9<|T.a c hc).symm▸?_;refine g7<|j6<|j6<|L _ (k+2) (g8 hk<|m7 _ 2) ?_;intro c' a I;rw[lW]at I;split at I;.rename_i he;obtain rfl:=c0 I;rw[ZC.mp he]
    .exact h5 _ _ I
  .rintro⟨ps,n,S,u,J⟩s'⟨F,e1,rfl,rfl,rfl,h5,k,hk,rfl⟩;obtain e2:F=x.cps.toList:=by rw[e1,eY]
   subst e2;obtain e3:x.cps.toList.length=x.length:=n8;refine rI (n9<|by unfold mB;simp only[t4];simp[U,e3]) ?_;rw[List.reverse_reverse,Rc];exact g7<|wpAny_mkStr (s:={s with toks:=k}) (j6<|h1 (Nat.zero_lt_of_ne_zero hz) k hk)<|by show(x.cps.toList.map f).toArray.size<=k8;simp[U,e3]
end
end Mine.Lake
namespace Mine.Lake
open PySem PySem.W PyProof.Rows PySem.Builtin PySem.Builtin.Str
section
variable{prog:lG}{w:YB}{A:cG}{E:Pv}{s:j8}
theorem Rg{M:Zb}{x:Yg}{t:b_}{u:s_ Yj}{Q:n4×Lv->j8->Prop}(h:Q (.builtin "str.translate",[.str x t]) s):Yi M A (ZP (.str x t) "translate" u) Q E s:=by with_reducible exact J_ (.str x t) (eS _ _ _) F.slot_str_translate F.type_str_translate nT h
theorem Rh{K:L_}{C d:YF}{f:Y9->Y9}(T:sw K C d f)(X:K.In s.heap){x:Yg}{t:b_}(I:∀c∈x.cps.toList,c<128)(J:x.length<=k8){Q:Pv}(u:x.length=0->Q (.str x t) s)(h1:0<x.length->∀k,s.toks<=k->Q (.str (q8 f x) k) {s with toks:=k+1}):Yi (Zs prog w) A (Zm (.builtin "str.translate") [.str x t,.ref d] []) Q E s:=iH F.slot_str_translate (eS _ _ _) F.entry_str_translate
  (Rf T X I J (λe=>⟨_,Y7,u e⟩) λe k hk=>⟨_,Y7,h1 e k hk⟩)<|F.args_str_translate_2 _ _
theorem Ri{x y z:Yg}{t u v:b_}{Q:Pv}(V:x.length≠0->u≠0/\v≠0/\u≠v)(O:(d_ ⟨#[]⟩ y 0 0 1).isEmpty)(L:(y==z)=Yc)(J:x.length+(x.length+1)*z.length<=16777216)(S:∀t' k,s.toks<=k->Q (.str (eL x y z) t') {s with toks:=k}):Yi (Zs prog w) A (Zm (.builtin "str.replace") [.str x t,.str y u,.str z v] []) Q E s:=by
 have U:=n9<|Nat.not_lt.mpr<|g8 (i8 (eK _<|StrLaws.occ_length_le x y 0 x.length<|x.length+1) _)<|g8 J<|eJ (by decide:(2:Y9)^24=16777216).symm;have N:((d_ x y 0 x.length<|x.length+1).isEmpty||y.length==0&&z.length==0)=Yc->x.length≠0:=by
  intro hc T;have:x=⟨#[]⟩:=by obtain⟨c⟩:=x;have:c=#[]:=fJ T;rw[this]
  subst this;rw[show(⟨#[]⟩:Yg).length=0 from Y7,O]at hc;exact su hc
 refine call_gives F.slot_str_replace (eS _ _ _) F.entry_str_replace (F.args_str_replace_3 _ _ _)
  (gives_str_replace x y z t u v λhc=>bq (V<|N hc) λa b c=>⟨by simp[a,b],by simp[c],L,U⟩) ?_;have I:=S;unfold eL at I;cases hc:(d_ x y 0 x.length<|x.length+1).isEmpty||y.length==0&&z.length==0;.rw[hc]at I;simp only[pE,if_false]at I⊢;exact⟨fits_replaced y J,I _ _<|fM _⟩
 .rw[hc]at I;simp only[if_true]at I⊢;exact I t s.toks<|j7 _
end
def D9(v:Yg)(s:j8):Prop:=v.length=0\/0<s.toks
section
variable{P:mx}{fr:Ln}{A:cG}{env:Zk}{W W':Wd}{σ σ':St}{s s':j8}{cx:Sx}
theorem JB{E:Pv}(F:ue P cx.j fr A env)(I:lb P fr W σ.h s)(L:lm P env W σ s.heap){x:Yg}{v:V}{c:n4}(O:env.kindOf x=Y6 .local)(hv:VR W σ.n v c){Q:z_->j8->Prop}(S:∀s',kc P fr env W σ s W (σ.F x v) s'->s.toks<=s'.toks->Q () s'):Yi P.M A (B_ env x c) Q E s:=am L.l λm u q=>gQ O u (λT N J=>S _ (kc.jw I L F.f hv O u N J Y7 Y7)<|fM _)<|by erw[L.kind];rfl
set_option tactic.hygienic true in theorem Rj(F:ue P cx.j fr A env)(I:lb P fr W σ.h s)(L:lm P env W σ s.heap){x v a b:Str}{q N ap p1 p2 r p:Pos}{J S:Nat}(V:env.kindOf x=some .local)(hg:zD x)(hv:σ.l.lookup x=some (.f v))(hp:D9 v s)(O:D1 a b)(a0:a.length<=k8)(X:b.length<=k8)(u:AB v a b)(h5:ap.endLine=r.line){Q:Flow->j8->Prop}{E:Pv}(Z:∀s',kc P fr env W σ s W (σ.F x<|.f<|eL v a b) s'->D9 (eL v a b) s'->Q .next s'):wpAny P.M A (exec (.Assign [.Name x q] (.Call (.Attribute (.Name x N) "replace" ap) [.Constant (.str a) J p1,.Constant (.str b) S p2] [] r) p) env) Q E s:=by
 refine bC λT=>?_;obtain⟨hd,a7⟩:=jH hg;refine T ?_;unfold D1 at O;unfold AB at u;simp only[j0,fU,t4]at O u;refine bC λT=>?_;obtain⟨m,hn,hl⟩:=L.l;obtain⟨_,c,hm,U⟩:=hl x (.f v) hv;obtain⟨t,rfl,a6,_⟩:=U.T;refine T<|lI ?_<|xZ Y7 ..;obtain hst:T_ [sK (.str a) J p1,.Constant (.str b) S p2] env=[(Yc,Z7 (.Constant (.str a) J p1) env),(Yc,Z7 (.Constant (.str b) S p2) env)]:=Y7;show Yi P.M A (do
  let ov<-ZK (.Name x N) "replace" env<|eval (.Name x N) env
  standAt ap.atName
  ZU (.Name x N) "replace" ap r env ov ([sK (.str a) J p1,.Constant (.str b) S p2].length+([]:Yb Keyword).length) (m_ r<|starEach [sK (.str a) J p1,.Constant (.str b) S p2] env)<|backToKw r<|keywordEach [] env) _ _ s;refine g7<|sQ (lN L.kind V hn hm<|g7<|fP ?_) hd;unfold ZU;refine g7<|v7<|GM.replace<|g7<|dX (by unfold Zv;simp[h5]:Zv Ye (.Name x N) env ap r=Zg r)<|kY Y7<|pK (oR ?_) Y7;refine pK (oR<|wpAny_items_nil ⟨λE Q hq=>j6<|hq _,Ri (λhz=>?_) O.1 O.2 u.1.1 λt' k hk=>?_⟩) Y7
 .rcases hp with hp|hp;.exact g9 hp hz
  .exact⟨eZ hp,eZ<|bA (sA 0) _,v9<|u8 _⟩
 .obtain st:=kc.toks I L k;refine JB F st.f st.l V (.d6 _ _ u.1.2 u.2) λs' a1 Y=>Z s' (st.cr a1) ?_;clear st hst I V hg hv a0 X u h5 Z;rcases hp with hp|hp
  .refine .inl ?_;have:v=⟨#[]⟩:=by obtain⟨c⟩:=v;have:c=#[]:=fJ hp;rw[this]
   subst this;unfold eL;rw[show(⟨#[]⟩:Yg).length=0 from Y7,O.1];rfl
  .exact .inr<|i9 (eG _)<|g8 hk Y
theorem JC{x:Yg}{u v:V}(st:kc P fr env W σ s W' ((σ.F x u).F x v) s'):kc P fr env W σ s W' (σ.F x v) s':=by
 refine⟨st.w,st.f,⟨st.l.kind,st.l.g,st.l.f,?_,st.l.e,st.l.d⟩⟩;refine am st.l.l λm h1 h2=>⟨m,h1,λz w hz=>h2 z w ?_⟩;have F:(yP x v σ.l).lookup z=Y6 w:=hz;show(yP x v<|yP x u σ.l).lookup z=Y6 w;rw[ku]at F|-;by_cases h1:z=x;.rw[d9 h1]at F|-;exact F
 .rw[d8 h1]at F|-;rw[ku,d8 h1];exact F
set_option tactic.hygienic true in theorem Rk(F:ue P cx.j fr A env){x:Str}{Q:Flow->j8->Prop}{E:Pv}(U:env.kindOf x=some .local)(hg:zD x){ps:List<|Str×Str}{l l':List Stmt}(h:tu x ps l l'):∀{W:Wd}{σ:St}{s:j8}{v v':Str},lb P fr W σ.h s->lm P env W σ s.heap->σ.l.lookup x=some (.f v)->D9 v s->BS ps v=some v'->(∀s',kc P fr env W σ s W (σ.F x<|.f v') s'->wpAny P.M A (execs l' env) Q E s')->wpAny P.M A (execs l env) Q E s:=by induction h with
 |d=>
  intro W σ s v v' I L hv hp e O;obtain rfl:=c0 e;refine O s<|⟨(kc.cB I L).w,I,⟨L.kind,L.g,L.f,?_,L.e,L.d⟩⟩;refine am L.l λm h1 h2=>⟨m,h1,λz w hz=>h2 z w ?_⟩;have u:(yP x (.f v) σ.l).lookup z=Y6 w:=hz;rw[ku]at u;by_cases J:z=x;.replace u:=bi J u;obtain rfl:=c0 u;rw[J];exact hv
  .obtain u:=bc J u;exact u|@c a b ps q Z ap p1 p2 r p X k2 l l' hc Y V=>
  intro W σ s v v' I L hv hp e O;simp only[j0,t4,v1]at hc;have N:(if AB v a b then BS ps (eL v a b)else Y8)=Y6 v':=e;split at N;.rename_i hk;refine pL<|Rj F I L U hg hv hp hc.1.1.1 hc.1.1.2 hc.1.2 hk hc.2 λs' st S=>V st.f st.l ?_ S N λs'' T=>O s''<|JC<|st.cr T;show(yP x _ σ.l).lookup x=_;rw[ku,d9 Y7]
  .exact lz N
theorem zM{α β:Type}{o:Yd α}{f:α->Rs β}(h:o.elim .b f≠.b):∃a,o=Y6 a/\o.elim .b f=f a:=by cases o with|none=>exact g9 Y7 h|some a=>exact⟨a,Y7,Y7⟩
theorem Rl{sc:Yt}{x N:Yg}{ps:Yb<|Str×Yg}{b:S}{q Y ap p1 r p:ZR}{l l':Yb YW}(h1:zD x&&sc.names.lookup x==Y6 .local)(h2:Ok (.g N) sc<|.e<|.Name N p1)(h5:ap.endLine=r.line)(hr:tu x ps l l')(ib:Bl P b sc<|.l l'):Bl P (.C x N ps b) sc<|.l<|.Assign [.Name x q] (.Call (.Attribute (.Name x Y) "translate" ap) [.Name N p1] [] r) p::l:=by intro cx C fr A env F S;obtain Jb:=ib cx C fr A env F S;obtain Jg:=(ml C.a h2 fr A env F.toFm S).1;simp only[j0,v1]at h1;have hx:=S.l x h1.2;obtain⟨hd,aq⟩:=jH h1.1;intro W σ s I L J;obtain hev:ex (.C x N ps b) cx σ=match σ.l.lookup x with|some<|.f v=>(cx.p N).elim .b λvt=>(cx.r vt).elim .b λf=>(AC f ps v).elim .b λv'=>ex b cx<|σ.F x<|.f v'|_=>.b:=Y7;replace J:=hev▸J;erw[hev];cases h0:σ.l.lookup x with|none=>rw[h0]at J;exact g9 Y7 J|some w0=>
  rw[h0]at J;obtain⟨v,hw⟩:∃v,w0=.f v:=by cases w0 with|f v=>exact⟨v,Y7⟩|_=>exact g9 Y7 J
  subst hw;have hv:=h0;dsimp only at J⊢;obtain⟨vt,e1,r1⟩:=zM J;replace J:=r1▸J;erw[r1];obtain⟨f,e2,r2⟩:=zM J;rw[r2]at J⊢;obtain⟨v',e3,r3⟩:=zM J;rw[r3]at J⊢;refine cy (C.e _ _ e2) λd K Cc ab T X=>?_;subst ab;have O:=e3;by_cases hk:BU f v=Ye
  .replace O:=(d9 hk).symm.trans O;unfold BU at hk;simp only[j0,lK,t4]at hk;obtain⟨m,hn,hl⟩:=L.l;obtain⟨_,c,hm,a4⟩:=hl x (.f v) hv;obtain⟨t,rfl,a2,ao⟩:=a4.T;have U:(q8 f v).length=v.length:=by show(v.cps.toList.map f).toArray.size=v.cps.size;rw[dT,n5,n8]
   have a1:ev cx.c (.g N) σ=.c (.m<|.ref d) σ:=by show(match cx.p N with|some v=>Rs.c v σ|Option.none=>.b)=_;exact zJ5 e1 Y7
   refine pL<|lI ?_<|xZ Y7 ..;obtain hpos:Zv Ye (.Name x Y) env ap r=Zg r:=by unfold Zv;simp[h5]
   show Yi P.M A (do
    let ov<-ZK (.Name x Y) "translate" env<|eval (.Name x Y) env
    standAt ap.atName
    ZU (.Name x Y) "translate" ap r env ov ([Expr.Name N p1].length+([]:Yb Keyword).length) (m_ r<|starEach [Expr.Name N p1] env)<|backToKw r<|keywordEach [] env) _ _ s;refine g7<|sQ (lN L.kind hx hn hm<|g7<|fP ?_) hd;unfold ZU;refine g7<|v7<|Rg<|g7<|dX hpos<|kY Y7 ?_;refine pK (m8 (Jg W σ s I L<|by rw[a1];nofun) (λc a9 zq=>zq.elim λu a7 aC e aA hu=>?_)<|λe s' h=>h.elim) Y7;replace e:=a1.symm.trans e;injection e with e h_;subst e h_;obtain rfl:=hu.ds;refine wpAny_items_nil ⟨λE Q hq=>j6<|hq _,?_⟩;have go:∀t' k,D9 (q8 f v) {a9 with toks:=k}->Yi P.M A (B_ env x<|.str (q8 f v) t') (λz aH=>Yi P.M A (execs l env) (pi P fr env W σ s<|ex b cx<|σ.F x<|.f v') nu aH) nu {a9 with toks:=k}:=by
    intro t' k hp;obtain st:=aA.cr<|kc.toks aA.f aA.l k;refine JB F st.f st.l hx (.d6 _ _ (by rw[U];exact a2) hk.2) λs' ac a3=>?_;have V:=st.cr ac;refine Rk F hx h1.1 hr V.f V.l ?_ ?_ O λs'' a6=>?_;.show(yP x _ σ.l).lookup x=_;exact zJ5 ku<|zJ5 (d9 Y7) Y7
    .rcases hp with hp|hp;.exact .inl hp
     .exact .inr<|i9 hp a3
    .have Z:=JC<|V.cr a6;exact m8 (Jb _ _ _ Z.f Z.l J) (λc s' h=>h.F Z) λe s' h=>h.elim
   refine Rh T (X.keeps aA.f.f) hk.1 a2 (λhz=>?_) λhz k a3=>go k (k+1)<|.inr<|eG _
   .obtain e0:q8 f v=v:=by obtain⟨c⟩:=v;have:c=#[]:=fJ hz;subst this;rfl
    have g:=go t a9.toks<|.inl (by rw[U];exact hz);rw[e0]at g;exact g
  .exact lz<|(d8 hk).symm.trans O
end
end Mine.Lake
namespace Mine.Lake
open PySem PySem.W PyProof.Rows
section
variable{P:mx}{fr:Ln}{A:cG}{env:Zk}{W W':Wd}{σ σ':St}{s s':j8}{cx:Sx}
set_option tactic.hygienic true in theorem Rm(I:lb P fr W σ.h s)(L:lm P env W σ s.heap){a b:V}{Y Z:n4}(X:VR W σ.n a Y)(U:VR W σ.n b Z)(T:(uj a b).st σ≠.b):wpAny P.M A (inplaceOp .Add Y Z) (kq P fr env W σ s<|(uj a b).st σ) nu s:=by have J:uj a b≠.a:=λq=>T (by erw[q];rfl);clear T;cases a with
 |d x=>refine bn (qP<|J) λy e2=>?_;obtain rfl:=qJ e2;refine bn X.U λz F=>?_;subst F;refine bn U.U λz F=>?_;subst F;exact wpAny_iadd_int<|qL Y7 (kc.toks I L _)<|.cr ..|f x=>
  refine bn (qP<|J) λy e2=>?_;obtain rfl:=qI e2;obtain hx:=bo X.T λz z a z=>a;obtain hy:=bo U.T λz z a z=>a;by_cases N:x.length+y.length<=k8
  .obtain e:uj (.f x) (.f y)=.b (.f<|x++y):=d9 N;erw[e];refine bo X.T λt F z O=>?_;subst F;refine bo U.T λu F z S=>?_;subst F;refine PySem.P.iadd_str ?_;split;.rename_i h;exact qL Y7 (kc.cB I L)<|by erw[J0 h];exact .d6 _ _ hy S
   .split;.rename_i h;exact qL Y7 (kc.cB I L)<|by erw[J1 h];exact .d6 _ _ hx O
    .obtain hl:(x++y).length<=k8:=by show(x.cps++y.cps).size<=_;erw[nQ];exact N
     exact⟨hl,qL Y7 (kc.toks I L _)<|.d6 _ _ hl<|kX O S⟩
  .exact g9 (d8 N) J|_=>exact g9 Y7 J
set_option tactic.hygienic true in theorem Rn{sc:Scope}{x:Str}{e:X}{v:Expr}{p pos:Pos}(h3:sc.names.lookup x=some .local)(h4:Ok e sc<|.e v):Bl P (.A x e) sc<|.s<|.AugAssign (.Name x p) .Add v pos:=by
 intro cx C fr A env F S;have hk:=S.l x h3;intro W σ s I L J;obtain hev:ex (.A x e) cx σ=(ev cx.c (.v x) σ).F λu aT=>(ev cx.c e aT).F λv a7=>((uj u v).st a7).F λr a8=>.c .a<|a8.F x r:=Y7;rw[hev]at J|-;obtain Jx:q7 P fr A env (loadName env x)<|ev cx.c<|.v x:=λW σ s I L J=>by
  obtain hev:ev cx.c (.v x) σ=match σ.l.lookup x with|some v=>.c v σ|Option.none=>.b:=Y7;rw[hev]at J|-;split at J;.rename_i v hv;refine am L.l λm hn hl=>?_;refine bC λY=>?_;obtain⟨_,c,hm,N⟩:=hl x v hv;refine Y ?_;exact lN L.kind hk hn hm<|qL Y7 (kc.cB I L) N
  .exact g9 Y7 J
 refine wpAny_AugAssign_Name<|FS Jx (ml C.a h4 fr A env F.toFm S).1 I L J λaG a8 aH u w cu cw U T hu hw=>?_;rw[U]at J|-;refine m8 (Rm T.f T.l hu hw<|Rs.J J) (λc aL Z=>Z.elim λr aE V aO O N=>?_)<|λe s' h=>h.elim;rw[Rs.u aO]at J|-;exact xG F O.f O.l hk N λaV aP=>⟨_,_,V,Y7,(T.cr O).cr aP,.a⟩
theorem Rq{c:Cx}{t:ym}{x:Yg}{elt it cond:X}{y:Yg}{σ:St}:((ev c (.u elt y it cond) σ).F λu a7=>vJ<|t.u a7 x u)=(ev c (.u elt y it cond) σ).F λu a7=>match u with|.h xs=>vJ<|t.u (td.b.st xs a7) x<|td.b.val xs a7|_=>.b:=by cases F:ev c (.u elt y it cond) σ with|c u a7=>obtain⟨xs,rfl⟩:=QV F;rfl|b=>rfl
section
variable{sc cs:Yt}{elt it cond:X}{y:Yg}{e i:YJ}{ifs:Yb YJ}{x:Yg}{p q zp lp:ZR}(hi:Ok it sc<|.e i)(h2:Ok elt cs<|.e e)(h3:Ok cond cs<|.u ifs)(h4:kH y sc cs=Ye)(h5:kC i=Yc)
include hi h2 h3 h4 h5
theorem Rr(h1:sc.names.lookup x=Y6 .local):Bl P (.a x<|.u elt y it cond) sc<|.s<|.Assign [.Name x q] (.ListComp e [⟨.Name y zp,i,ifs,0⟩] cs lp) p:=λcx C fr A env F S W σ s I L u=>QU C F S .b .l hi h2 h3 h4 h5 (S.l x h1) I L _ (Rq (c:=cx.c) (t:=.l) (x:=x) (elt:=elt) (it:=it) (cond:=cond) (y:=y) (σ:=σ)) u
end
end
def qk(a:S)(sc:Yt)(pt:Pt):Prop:=∀P,Bl P a sc pt
def vg{P:YW->Prop}(k:Y9)(f:∀e,e.ctorIdx=k->kk (P e))(e:YW):kk<|P e:=if h:e.ctorIdx=k then f e h else .J
def jQ{P:Pt->Prop}(f:∀e,kk<|P<|.s e)(p:Pt):kk<|P p:=p.rec f λq=>.J
def FZ{P:Pt->Prop}(f:∀e,kk<|P<|.l e)(p:Pt):kk<|P p:=p.rec (λq=>.J) f
def Rt(e:X):Yd {es:X//e=.r es}:=X.casesOn (motive:=λe=>Yd {es:X//e=.r es}) e Y8 (λq=>Y8) (λq=>Y8) (λq=>Y8) (λq=>Y8) (λq=>Y8) (λq=>Y8) (λq q q=>Y8) (λq=>Y8) (λq=>Y8) (λq q q=>Y8) (λq q=>Y8) (λq q=>Y8) (λq q q=>Y8) (λq q=>Y8) (λq q q=>Y8) (λq q=>Y8) (λes=>Y6 ⟨es,Y7⟩) (λq=>Y8) Y8 (λq q=>Y8) (λq q=>Y8) (λq q q=>Y8) (λq q q q=>Y8) (λq q=>Y8) (λq q=>Y8) (λq=>Y8)<|λq q q q=>Y8
def JD{P:X->Prop}(f:∀es,kk<|P<|.r es)(e:X):kk<|P e:=(Rt e).rec .J λq=>q.2▸f q.1
def Ru(e:X):Yd {q:X×Yg×X×X//e=.u q.1 q.2.1 q.2.2.1 q.2.2.2}:=X.casesOn (motive:=λe=>Yd {q:X×Yg×X×X//e=.u q.1 q.2.1 q.2.2.1 q.2.2.2}) e Y8 (λz=>Y8) (λz=>Y8) (λz=>Y8) (λz=>Y8) (λz=>Y8) (λz=>Y8) (λz z z=>Y8) (λz=>Y8) (λz=>Y8) (λz z z=>Y8) (λz z=>Y8) (λz z=>Y8) (λz z z=>Y8) (λz z=>Y8) (λz z z=>Y8) (λz z=>Y8) (λz=>Y8) (λz=>Y8) Y8 (λz z=>Y8) (λz z=>Y8) (λz z z=>Y8) (λa b c d=>Y6 ⟨(a,b,c,d),Y7⟩) (λz z=>Y8) (λz z=>Y8) (λz=>Y8)<|λz z z z=>Y8
def Rv{P:X->Prop}(f:∀a b c d,kk<|P<|.u a b c d)(e:X):kk<|P e:=(Ru e).rec .J λq=>q.2▸f _ _ _ _
noncomputable abbrev CS(a:S):Type:=∀(sc:Yt)(pt:Pt),kk<|qk a sc pt
def BV{P:YW->Prop}(x:Yg)(f:∀q v p,kk<|P<|.Assign [.Name x q] v p):∀s,kk<|P s:=vg 5 λs h=>Zw s h λu v p=>(wG λt=>(zT x λq=>f q v p:∀t,kk<|P<|.Assign [t] v p) t:∀u,kk<|P<|.Assign u v p) u
def JE{P:YW->Prop}(f:∀t u v p,kk<|P<|.Assign [t,u] v p):∀s,kk<|P s:=vg 5 λs h=>Zw s h λF v p=>(BO λt u=>f t u v p:∀F,kk<|P<|.Assign F v p) F
def JF{P:YW->Prop}(f:∀t u k q v p,kk<|P<|.Assign [.Tuple [t,u] k q] v p):∀s,kk<|P s:=vg 5 λs h=>Zw s h λF v p=>(wG λt=>(q6 25 λe h=>ZB e h λl k q=>(BO λt u=>f t u k q v p:∀l,kk<|P<|.Assign [.Tuple l k q] v p) l:∀t,kk<|P<|.Assign [t] v p) t:∀F,kk<|P<|.Assign F v p) F
def yo(sc:Yt)(x:Yg):kk<|sc.names.lookup x=Y6 .local:=.I _
def Da(v:YJ):kk<|FA v=Yc:=.I _
def JG{P:YJ->Prop}(f:∀a b k q,kk<|P<|.Tuple [a,b] k q):∀e,kk<|P e:=q6 25 λe h=>ZB e h λl k q=>(BO λa b=>f a b k q:∀l,kk<|P<|.Tuple l k q) l
def BW{P:YJ->Prop}(g:Yg)(f:∀t q,kk<|P<|.Attribute t g q):∀e,kk<|P e:=q6 20 λe h=>Zi e h λt y q=>(kk.I<|y=g).then λh=>h▸f t q
def JH{P:YJ->Prop}(x m:Yg)(f:∀q ap as r,kk<|P<|.Call (.Attribute (.Name x q) m ap) as [] r):∀e,kk<|P e:=q6 16 λv h=>Zr v h λg as u r=>(BW m λe ap=>(zT x λq=>(jC<|f q ap as r:∀u,kk<|P<|.Call (.Attribute (.Name x q) m ap) as u r) u:∀e,kk<|P<|.Call (.Attribute e m ap) as u r) e:∀g,kk<|P<|.Call g as u r) g
def JI{P:YJ->Prop}(a:Yg)(f:∀k p,kk<|P<|.Constant (.str a) k p):∀e,kk<|P e:=q6 19 λe h=>Zn e h λc k p=>(kk.I<|c=.str a).then λh=>h▸f k p
def Rx{Q:Yb YW->Prop}(x:Yg)(k:∀l,kk<|Q l)(ps:Yb<|Str×Yg):∀l,kk<|∃l',tu x ps l l'/\Q l':=ps.rec (λl=>(k l).F λh=>⟨l,.d,h⟩) λF ps L=>vE λs l=>(BV x λq v p=>(JH x "replace" λI ap as r=>(BO λt u=>(JI F.1 λJ p1=>(JI F.2 λN p2=>(kk.I<|(D1 F.1 F.2&&Yk (F.1.length<=k8)&&Yk (F.2.length<=k8)&&ap.endLine==r.line)=Ye).then λh1=>(L l).F λh=>h.elim λl' h=>⟨l',.c h1 h.1,h.2⟩:∀u,kk<|∃l',tu x (F::ps) (.Assign [.Name x q] (.Call (.Attribute (.Name x I) "replace" ap) [.Constant (.str F.1) J p1,u] [] r) p::l) l'/\Q l') u:∀t,kk<|∃l',tu x (F::ps) (.Assign [.Name x q] (.Call (.Attribute (.Name x I) "replace" ap) [t,u] [] r) p::l) l'/\Q l') t:∀as,kk<|∃l',tu x (F::ps) (.Assign [.Name x q] (.Call (.Attribute (.Name x I) "replace" ap) as [] r) p::l) l'/\Q l') as:∀v,kk<|∃l',tu x (F::ps) (.Assign [.Name x q] v p::l) l'/\Q l') v:∀s,kk<|∃l',tu x (F::ps) (s::l) l'/\Q l') s
set_option tactic.hygienic true in def G2(a:S):CS a:=S.rec (motive:=CS)
 (λsc=>jQ<|vg 26 λs h=>Stmt.Break.elim s h λj=>⟨Ye,λj j=>λcx C fr A env F S W σ s I L j=>wpAny_Break ⟨_,σ,W,Y7,kc.cB I L,.e⟩⟩)
 (λe sc=>jQ<|vg 24 λs h=>Stmt.Expr.elim s h λv p=>(te e sc<|.e v).then λh=>(Da v).F λh2 j=>λcx C fr A env F S W σ s I L J=>wpAny_Expr_any (zX (ml C.a h fr A env F.toFm S).1 I L J λv c W' σ' s' e st hv=>⟨_,σ',W',Rs.u e,st,.a⟩) (by unfold interactive;erw[L.kind];rfl)<|xZ h2 ..)
 (λx e sc=>jQ<|BV x λq v p=>(yo sc x).then λO=>kk.N ((te e sc<|.e v).then λh=>(Da v).F λh2 j=>λcx C fr A env F S W σ s I L J=>Jw C F S .l h h2 (S.l x O) I L J)<|(Rv λelt y it cond=>(q6 8 λe h=>ZH e h λv gs cs lp=>(wG λg=>g.casesOn λt i ifs a=>(zT y λyp=>(kk.I<|a=0).then λh0=>(te it sc<|.e i).then λhi=>(te elt cs<|.e v).then λhe=>(te cond cs<|.u ifs).then λhc=>(kk.I<|kH y sc cs=Ye).then λhs=>(kk.I<|kC i=Yc).F λhz=>h0▸λj=>Rr hi he hc hs hz O:∀t,kk<|qk (.a x<|.u elt y it cond) sc<|.s<|.Assign [.Name x q] (.ListComp v [⟨t,i,ifs,a⟩] cs lp) p) t:∀gs,kk<|qk (.a x<|.u elt y it cond) sc<|.s<|.Assign [.Name x q] (.ListComp v gs cs lp) p) gs:∀v,kk<|qk (.a x<|.u elt y it cond) sc<|.s<|.Assign [.Name x q] v p) v:∀e,kk<|qk (.a x e) sc<|.s<|.Assign [.Name x q] v p) e)
 (λx e sc=>jQ<|BV x λq v p=>(yo sc x).then λO=>(JD λes=>(q6 24 λe h=>ZI e h λl r=>(te es sc<|.es l).F λh j=>λcx C fr A env F S W σ s I L J=>QW C F S .l h (S.l x O) I L J:∀v,kk<|qk (.z x<|.r es) sc<|.s<|.Assign [.Name x q] v p) v:∀e,kk<|qk (.z x e) sc<|.s<|.Assign [.Name x q] v p) e)
 (λx e sc=>jQ<|BV x λq v p=>(kk.I<|sc.names.lookup x=Y6 .cell).then λO=>(te e sc<|.e v).then λh=>(Da v).F λh2 j=>λcx C fr A env F S W σ s I L J=>Jw C F S .e h h2 (S.cell x O) I L J)
 (λo f e sc=>jQ<|vg 5 λs h=>Zw s h λts v p=>(wG λt=>(BW f λt q=>(te o sc<|.e t).then λho=>(te e sc<|.e v).then λh=>(Da v).F λh2 j=>by intro cx C fr A env F S;intro W σ s I L J;obtain N:ex (.l o f e) cx σ=(ev cx.c e σ).F λv a7=>(ev cx.c o a7).F λvo a8=>vJ<|(cx.q vo f v a8.h).map λH=>{a8 with h:=H}:=Y7;rw[N]at J⊢;refine plainObj_wpAny_Assign_Attribute (FS (ml C.a h fr A env F.toFm S).1 (ml C.a ho fr A env F.toFm S).1 I L J λaG a8 aH u w cu cw aM Y hu hw=>?_)<|xZ h2 ..;rw[aM]at J⊢;cases hp:cx.q w f u a8.h with|none=>rw[hp]at J;exact g9 Y7 J|some Hn=>exact C.b fr A env F.toFm aG a8 aH Y.f Y.l w f u cw cu Hn hw hu hp _ _ λaN aL U=>⟨_,_,aN,Y7,Y.cr U,.a⟩:∀t,kk<|qk (.l o f e) sc<|.s<|.Assign [t] v p) t:∀ts,kk<|qk (.l o f e) sc<|.s<|.Assign ts v p) ts)
 (λe sc=>jQ<|vg 3 λs h=>M_ s h λv p=>(Ba .J λv=>(te e sc<|.e v).F λh j=>λcx C fr A env F S W σ s I L J=>wpAny_Return_some<|zX (ml C.a h fr A env F.toFm S).1 I L J λv c W' σ' s' e st hv=>⟨_,σ',W',Rs.u e,st,.b hv⟩:∀v,kk<|qk (.m e) sc<|.s<|.Return v p) v)
 (λc a b ia ib sc=>jQ<|vg 12 λs h=>Stmt.If.elim s h λt x y p=>(te c sc<|.e t).then λhc=>(ia sc<|.l x).then λha=>(ib sc<|.l y).F λV j=>by obtain ia:=ha _;obtain ib:=V _;intro cx C fr A env F S;obtain Ja:=ia cx C fr A env F S;obtain Jb:=ib cx C fr A env F S;intro W σ s I L J;obtain N:ex (.h c a b) cx σ=(ev cx.c c σ).F λv a7=>np v a7 (ex a cx)<|ex b cx:=Y7;rw[N]at J⊢;refine wpAny_If<|AA (ml C.a hc fr A env F.toFm S).2 I L (JA J) λbb v σ' W' s' e ae st=>?_;rw[Rs.u e]at J⊢;cases bb with|true=>rw[(by unfold np;rw[ae]:np v σ' (ex a cx) (ex b cx)=ex a cx σ')]at J⊢;exact m8 (Ja W' σ' s' st.f st.l J) (λc s' h=>h.F st) λe s' h=>h.F st|false=>rw[(by unfold np;rw[ae]:np v σ' (ex a cx) (ex b cx)=ex b cx σ')]at J⊢;exact m8 (Jb W' σ' s' st.f st.l J) (λc s' h=>h.F st) λe s' h=>h.F st)
 (λn c b o ib io sc=>jQ<|vg 11 λs h=>Stmt.While.elim s h λt x y p=>(te c sc<|.e t).then λhc=>(ib sc<|.l x).then λha=>(io sc<|.l y).F λV j=>λcx C fr A env F S W σ s I L J=>QY (ml C.a hc fr A env F.toFm S).2 ((ha _) cx C fr A env F S) ((V _) cx C fr A env F S) n I L J)
 (λx it b ib sc=>jQ<|vg 9 λs h=>Stmt.For.elim s h λt i z o p=>(zT x λq=>(jC<|(yo sc x).then λO=>(te it sc<|.e i).then λhi=>(ib sc<|.l z).then λV=>(kk.I<|kC i=Yc).F λhz j=>by
   intro cx C fr A env F S;intro W σ s I L J;obtain N:ex (.p x it b) cx σ=(ev cx.c it σ).F λv a7=>match mu a7.h v with|some xs=>qc v xs (λu σ=>ex b cx<|σ.F x u) xs a7|none=>.b:=Y7;rw[N]at J⊢;refine wpAny_For (zX (ml C.a hi fr A env F.toFm S).1 I L J λv cv aC a7 a9 aI T hv=>?_)<|Jp hz;rw[Rs.u aI]at J⊢;revert J;split<;>intro J;.rename_i xs bf;refine m8 (QZ (E:=nu) F.b F (λW σ s y c I L hy j Q E hq=>eI<|xG F I L (S.l x O) hy λs' st=>hq s' _ st Y7 Y7) (λs σ W n u v i Ia c Q E j j j h=>j6 h) ((V _) cx C fr A env F S) hv T.f T.l J) (λit aH h=>r_ h λr s' hr=>?_) λj j e=>e;cases r with|ok f=>exact pi.F T hr|error e=>exact hr
   .exact g9 Y7 J:∀o,kk<|qk (.p x it b) sc<|.s<|.For (.Name x q) i z o p) o:∀t,kk<|qk (.p x it b) sc<|.s<|.For t i z o p) t)
 (λe sc=>jQ<|vg 19 λs h=>Stmt.Assert.elim s h λt m p=>(Ba ((te e sc<|.e t).F λh j=>by intro cx C fr A env F S;intro W σ s I L J;obtain N:ex (.i e) cx σ=(ev cx.c e σ).F λv a7=>np v a7 (λa7=>.c .a a7)<|λj=>.b:=Y7;rw[N]at J⊢;refine wpAny_Assert_holds<|AA (ml C.a h fr A env F.toFm S).2 I L (JA J) λbb v σ' W' s' e V st=>?_;rw[Rs.u e]at J⊢;cases bb with|true=>exact⟨Y7,_,σ',W',by unfold np;exact zJ5 V Y7,st,.a⟩|false=>exact g9 (by unfold np;exact zJ5 V Y7) J) λj=>.J:∀m,kk<|qk (.i e) sc<|.s<|.Assert t m p) m)
 (λsc=>FZ<|jC ⟨Ye,λj j=>λcx C fr A env F S W σ s I L j=>wpAny_execs_nil ⟨_,σ,W,Y7,kc.cB I L,.a⟩⟩)
 (λa b ia ib sc=>FZ<|vE λx r=>(ia sc<|.s x).then λha=>(ib sc<|.l r).F λV j=>by obtain ia:=ha _;obtain ib:=V _;intro cx C fr A env F S;obtain Ja:=ia cx C fr A env F S;obtain Jb:=ib cx C fr A env F S;intro W σ s I L J;obtain N:ex (.d a b) cx σ=(ex a cx σ).F λf a7=>AD f a7<|ex b cx:=Y7;rw[N]at J⊢;refine pL<|m8 (Ja W σ s I L<|Rs.J J) (λf a9 zq=>zq.elim λv a7 aC aI T hv=>?_)<|λe s' h=>h.elim;rw[Rs.u aI]at J⊢;cases hv with|a=>exact m8 (Jb aC a7 a9 T.f T.l J) (λc s' h=>h.F T) λe s' h=>h.F T|e=>exact⟨_,a7,aC,Y7,T,.e⟩|d=>exact⟨_,a7,aC,Y7,T,.d⟩|b hv=>exact⟨_,a7,aC,Y7,T,.b hv⟩)
 (λx y e sc=>jQ<|JF λt u k q v p=>(zT x λX=>(zT y λaK=>(yo sc x).then λO=>(yo sc y).then λhy=>kk.N
   ((q6 16 λv h=>Zr v h λg as ks r=>(te e sc<|.e<|.Call g as ks r).F λh j=>λcx C fr A env F S=>R3 F (S.l x O) (S.l y hy) (ml C.a h fr A env F.toFm S).1 (by rfl) Y7:∀v,kk<|qk (.q x y e) sc<|.s<|.Assign [.Tuple [.Name x X,.Name y aK] k q] v p) v)<|(JG λa b k' r=>(te e sc<|.e<|.Tuple [a,b] k' r).then λhe=>(kk.I<|Fy a b=Ye).then λh2=>(kk.I<|(x !=y&&X.line==aK.line)=Ye).F λh4 j=>by intro cx C fr A env F S;simp only[j0,nK,v1]at h4;intro W σ s I L J;exact R5 F (S.l x O) (S.l y hy) h4.1 (ml C.a he fr A env F.toFm S).1 (by unfold swapsWithSole;rfl) (R4 h2 h4.1 h4.2 (by unfold Env.blockKind;erw[L.kind];rfl) (S.l x O)<|S.l y hy) W σ s I L J:∀v,kk<|qk (.q x y e) sc<|.s<|.Assign [.Tuple [.Name x X,.Name y aK] k q] v p) v:∀u,kk<|qk (.q x y e) sc<|.s<|.Assign [.Tuple [.Name x X,u] k q] v p) u:∀t,kk<|qk (.q x y e) sc<|.s<|.Assign [.Tuple [t,u] k q] v p) t)
 (λsc=>jQ<|vg 27 λs h=>Stmt.Continue.elim s h λj=>⟨Ye,λj j=>λcx C fr A env F S W σ s I L j=>wpAny_Continue ⟨_,σ,W,Y7,kc.cB I L,.d⟩⟩)
 (λsc=>jQ<|vg 3 λs h=>M_ s h λv p=>(Ba ⟨Ye,λj j=>λcx C fr A env F S W σ s I L j=>wpAny_Return_none ⟨_,σ,W,Y7,kc.cB I L,.b .none⟩⟩ λj=>.J:∀v,kk<|qk .B sc<|.s<|.Return v p) v)
 (λx y e sc=>jQ<|JE λt u v p=>(zT x λX=>(zT y λaK=>(yo sc x).then λO=>(yo sc y).then λhy=>(te e sc<|.e v).F λh j=>by intro cx C fr A env F S W σ s I L J;obtain N:ex (.s x y e) cx σ=(ev cx.c e σ).F λv a7=>.c .a<|(a7.F x v).F y v:=Y7;rw[N]at J⊢;refine wpAny_Assign_two<|zX (ml C.a h fr A env F.toFm S).1 I L J λu c aC a7 a9 aI T hu=>?_;erw[Rs.u aI];refine eI<|xG F T.f T.l (S.l x O) hu λaH Y=>?_;exact eI<|xG F Y.f Y.l (S.l y hy) hu λaL U=>⟨_,_,aC,Y7,(T.cr Y).cr U,.a⟩:∀u,kk<|qk (.s x y e) sc<|.s<|.Assign [.Name x X,u] v p) u:∀t,kk<|qk (.s x y e) sc<|.s<|.Assign [t,u] v p) t)
 (λo f x e sc=>jQ<|JE λt u v p=>(BW f λt X=>(zT x λaK=>(yo sc x).then λO=>(te o sc<|.e t).then λho=>(JD λes=>(q6 24 λe h=>ZI e h λl r=>(te es sc<|.es l).F λh j=>by intro cx C fr A env F S W σ s I L J;obtain N:ex (.w o f x<|.r es) cx σ=(ev cx.c (.r es) σ).F λv a7=>ve v a7 λr a8=>(ev cx.c o a8).F λvo aE=>vJ<|(cx.q vo f r aE.h).map λH=>({aE with h:=H}:St).F x r:=Y7;rw[N]at J⊢;refine wpAny_Assign_two<|Jy C F S h I L (Rs.J J) λxs a7 a aC a9 aI R=>?_;rw[Rs.u aI]at J⊢;refine bo (R.J .a) λaG Y aS j=>?_;have hr:∀k,ve (.h xs) a7 k=k (.g a7.n) (a7.add<|.a xs):=λk=>Y7;rw[hr]at J⊢;have cM:VR aG (a7.add<|.a xs).n (.g a7.n)<|.ref a:=aS;have bS:=Y;refine FX C F S ho bS.f bS.l cM (λq=>J<|by cases ad:ev cx.c o<|a7.add (.a xs)with|b=>rfl|c vo aE=>replace q:=(Rs.u ad).symm.trans q;show vJ ((cx.q vo f (.g a7.n) aE.h).map λH=>({aE with h:=H}:St).F x<|.g a7.n)=.b;cases hp:cx.q vo f (.g a7.n) aE.h with|none=>rfl|some H=>rw[hp]at q;cases q) λaN aE aL Z U=>?_;refine eI<|xG F U.f U.l (S.l x O) (cM.mono U.w.d U.w.le) λaV aP=>?_;refine⟨_,_,aN,?_,(bS.cr U).cr aP,.a⟩;unfold yn at Z;cases ad:ev cx.c o<|a7.add (.a xs)with|b=>replace Z:=ad▸Z;cases Z|c vo bU=>replace Z:=(Rs.u ad).symm.trans Z;show vJ ((cx.q vo f (.g a7.n) bU.h).map λH=>({bU with h:=H}:St).F x<|.g a7.n)=_;cases hp:cx.q vo f (.g a7.n) bU.h with|none=>replace Z:=hp▸Z;cases Z|some H=>rw[hp]at Z;cases Z;rfl:∀v,kk<|qk (.w o f x<|.r es) sc<|.s<|.Assign [.Attribute t f X,.Name x aK] v p) v:∀e,kk<|qk (.w o f x e) sc<|.s<|.Assign [.Attribute t f X,.Name x aK] v p) e:∀u,kk<|qk (.w o f x e) sc<|.s<|.Assign [.Attribute t f X,u] v p) u:∀t,kk<|qk (.w o f x e) sc<|.s<|.Assign [t,u] v p) t)
 (λx e sc=>jQ<|vg 7 λs h=>Stmt.AugAssign.elim s h λt op v p=>(zT x λq=>(kk.I<|op=.Add).then λho=>(yo sc x).then λO=>(te e sc<|.e v).F λh=>ho▸λj=>Rn O h:∀t,kk<|qk (.A x e) sc<|.s<|.AugAssign t op v p) t)
 (λo f o' f' e sc=>jQ<|JF λt u k q v p=>(BW f λt X=>(BW f' λt' aK=>(te o sc<|.e t).then λho=>(te o' sc<|.e t').then λaw=>(JG λa b k' r=>(te e sc<|.e<|.Tuple [a,b] k' r).F λh j=>by
   intro cx C fr A env F S W σ s I L J;have N:ex (.r o f o' f' e) cx σ=(ev cx.c e σ).F λv a7=>wF v λa b=>(yn cx o f a a7).F λj aE=>yn cx o' f' b aE:=by show(ev cx.c e σ).F _=_;congr 1;funext v a7;congr 1;funext a b;unfold yn;cases ev cx.c o a7<;>rfl
   rw[N]at J⊢;refine Assign_Tuple (zX (ml C.a h fr A env F.toFm S).1 I L J λu c aC a7 a9 aI T hv=>?_) (by rfl) (by
    delta swappedStores;dsimp only;split;.rfl
    .split;.rfl
     .rfl);replace J:=Rs.u aI▸J;obtain V:=Rs.u (f:=λv a7=>wF v λa b=>(yn cx o f a a7).F λj aE=>yn cx o' f' b aE) aI;refine bw (FV J) λva vb hp hr=>?_;rw[hr]at J V;refine cj (FW F.b T.f T.l hv hp) λtt ca cb ay ha ae hU=>?_;subst ay;refine g7<|fP ?_;refine g7<|v7<|hU λaH Y=>?_;refine g7<|v7<|FX C F S ho Y.f Y.l ha (Rs.J J) λaN aE aL Z U=>?_;rw[Rs.u Z]at J V;refine g7<|v7<|FX C F S aw U.f U.l (ae.mono U.w.d U.w.le) J λaW aR aV aX aP=>?_;exact j6 ⟨_,_,aW,V.trans aX,((T.cr Y).cr U).cr aP,.a⟩:∀v,kk<|qk (.r o f o' f' e) sc<|.s<|.Assign [.Tuple [.Attribute t f X,.Attribute t' f' aK] k q] v p) v:∀u,kk<|qk (.r o f o' f' e) sc<|.s<|.Assign [.Tuple [.Attribute t f X,u] k q] v p) u:∀t,kk<|qk (.r o f o' f' e) sc<|.s<|.Assign [.Tuple [t,u] k q] v p) t)
 (λx sc=>jQ<|vg 4 λs h=>Stmt.Delete.elim s h λts p=>(wG λt=>(q6 21 λe h=>Zh e h λv i bD=>(zT x λq=>(q6 3 λe h=>ZO e h λo r bR=>(kk.I<|o=.USub).then λho=>(q6 19 λe h=>Zn e h λc k cL=>(kk.I<|c=.int 1).then λhc=>(kk.L<|zD x&&sc.names.lookup x==Y6 .local).F λO=>ho▸hc▸λj=>R7 O:∀r,kk<|qk (.t x) sc<|.s<|.Delete [.Subscript (.Name x q) (.UnaryOp o r bR) bD] p) r:∀i,kk<|qk (.t x) sc<|.s<|.Delete [.Subscript (.Name x q) i bD] p) i:∀v,kk<|qk (.t x) sc<|.s<|.Delete [.Subscript v i bD] p) v:∀t,kk<|qk (.t x) sc<|.s<|.Delete [t] p) t:∀ts,kk<|qk (.t x) sc<|.s<|.Delete ts p) ts)
 (λx tn ps b ib sc=>FZ<|vE λs l=>(BV x λq v p=>(JH x "translate" λq2 ap as r=>(wG λt=>(zT tn λp1=>(kk.I<|(zD x&&sc.names.lookup x==Y6 .local)=Ye).then λh1=>(te (.g tn) sc<|.e<|.Name tn p1).then λh2=>(kk.I<|ap.endLine=r.line).then λh3=>(Rx x (λl=>ib sc<|.l l) ps l).F λh=>h.elim λl' h=>λj=>Rl h1 h2 h3 h.1<|h.2 _:∀t,kk<|qk (.C x tn ps b) sc<|.l<|.Assign [.Name x q] (.Call (.Attribute (.Name x q2) "translate" ap) [t] [] r) p::l) t:∀as,kk<|qk (.C x tn ps b) sc<|.l<|.Assign [.Name x q] (.Call (.Attribute (.Name x q2) "translate" ap) as [] r) p::l) as:∀v,kk<|qk (.C x tn ps b) sc<|.l<|.Assign [.Name x q] v p::l) v:∀s,kk<|qk (.C x tn ps b) sc<|.l<|s::l) s)
 a
def Hp.add(H:Hp)(o:O):Hp:={o:=λk=>if k=H.n then Y6 o else H.o k,n:=H.n+1}
def kv(bv:Yb<|Str×V):Yb (Yg×dJ)->Hp->Yb (Yg×Y9)->Hp×Yb (Yg×Y9):=lr (λH c=>(H,c)) λx q r H c=>if x.2==.cell then r (H.add<|.cell<|bv.lookup x.1) ((x.1,H.n)::c)else r H c
theorem G3{bv:Yb<|Str×V}{x:Yg}{k:dJ}{r:Yb<|Str×dJ}{H:Hp}{c:Yb<|Str×Y9}:kv bv ((x,k)::r) H c=if k==.cell then kv bv r (H.add<|.cell<|bv.lookup x) ((x,H.n)::c)else kv bv r H c:=Y7
def jT(sc:Yt)(ps:Yb Yg):Yj:=sc.kind==.function&&!sc.isCoroutine&&!sc.isGenerator&&keyed sc.names&&sc.names.all (λp=>p.2 !=.free)&&og ps&&ps.all (λx=>sc.names.lookup x==Y6 .local||sc.names.lookup x==Y6 .cell)
def sk(f:Fl)(σ:St):Rs V:=match f with|.b v=>.c v σ|.a=>.c .none σ|_=>.b
def li(sc:Yt)(bv:Yb<|Str×V)(H:Hp):St:={h:=(kv bv sc.names H []).1,l:=bv.filter<|λp=>sc.names.lookup p.1==Y6 .local,e:=(kv bv sc.names H []).2}
def oh(bv:Yb<|Str×V)(H:Hp):St:={h:=H,l:=bv}
def uV(sc:Yt)(ps:Yb Yg):Yj:=sc.names.all (λp=>! p.2==.cell)&&ps.all λx=>sc.names.lookup x==Y6 .local
theorem Ry{sc:Yt}{ps:Yb Yg}{args:Yb V}{H:Hp}(h:uV sc ps):li sc (ps.zip args) H=oh (ps.zip args) H:=by unfold uV at h;rw[j0]at h;unfold li oh;rw[(by intro l;induction l with|nil=>intro _ c;rfl|cons p l u=>intro h c;rw[fK,j0]at h;obtain⟨x,k⟩:=p;refine bk (by rw[(by cases q:k==YH with|false=>rfl|true=>rw[show((x,k):Yg×dJ).2=k from Y7,q]at h;exact g9 h.1 iu:(k==YH)=Yc)];decide) ?_;exact u h.2 c:∀(l:Yb<|Str×dJ),l.all (λp=>! p.2==.cell)=Ye->∀c,kv (ps.zip args) l H c=(H,c)) _ h.1,ZZ.mpr λp hp=>Yx.mp h.2 _ (pT (a:=p.1) (b:=p.2) hp).1]
def sx(sc:Yt)(ps:Yb Yg)(b:S)(cx:Sx)(args:Yb V)(H:Hp):Rs V:=if args.length=ps.length then(ex b cx<|li sc (ps.zip args) H).F sk else .b
def Ro(W:Wd)(n:Y9):Yd V->Yd n4->Prop|some v,Y6 c=>VR W n v c|none,Y8=>True|_,_=>False
theorem uJ{W:Wd}{n:Y9}(x:Yg):∀(ps:Yb Yg){args:Yb V}{cs:Lv},ll W n args cs->Ro W n ((ps.zip args).lookup x) ((ps.zip cs).lookup x):=by intro F;induction F with|nil=>exact@λq q q=>YY|cons p ps u=>intro args cs h;cases args with|nil=>obtain rfl:=h.T;exact YY|cons a l=>obtain⟨c,I,rfl,h,r⟩:=h;unfold List.zip List.zipWith n3;cases x==p with|true=>exact h|false=>exact u r
theorem kQ{α:Type}{x:Yg}:∀{ps:Yb Yg}{cs:Yb α},ps.all (λy=>y !=x)->(ps.zip cs).lookup x=Y8:=by intro F;induction F with|nil=>intro _ _;rfl|cons p ps u=>exact@fun|[],_=>by rfl|c::cs,h=>by simp only[fK,j0,nK,ne_eq]at h;simp only[nM,n3];rw[show(x==p)=Yc from by simpa usingλq=>h.1 q.symm];exact u h.2
theorem JJ{u:Yg->Yd dJ}{x:Yg}:∀{ps:Yb Yg}{cs:Lv}{m:Yg->Yd n4},og ps->bindL u (ps.zip cs) m x=if u x=Y6 .local then((ps.zip cs).lookup x).or (m x)else m x:=by intro J;induction J with|nil=>intro cs m _;simp[bindL]|cons p ps I=>exact@fun
   |[],m,_=>by simp[bindL]|c::cs,m,h=>by
    simp only[uD,j0]at h;simp only[nM,bindL];erw[I h.2];simp only[n3];by_cases F:x=p
    · subst F;erw[kQ h.1];by_cases hk:u x=Y6 .local;·simp[hk]
      ·simp[hk]
    · erw[show(x==p)=Yc from by simpa using F];by_cases hk:u x=Y6 .local
      · simp only[hk,if_true];congr 1;by_cases hp:u p=Y6 .local;·simp[hp,F]
        ·simp[hp]
      · simp only[hk,if_false];by_cases hp:u p=Y6 .local;·simp[hp,F]
        ·simp[hp]
theorem JK{F:Yg->Yd dJ}{x:Yg}(hk:F x≠Y6 .local):∀{ps:Yb Yg}{cs:Lv}{m:Yg->Yd n4},og ps->bindC F (ps.zip cs) m x=((ps.zip cs).lookup x).or (m x):=by intro J;induction J with|nil=>intro cs m _;simp[bindC]|cons p ps I=>exact@fun
   |[],m,_=>by simp[bindC]|c::cs,m,h=>by
    simp only[uD,j0]at h;simp only[nM,bindC];erw[I h.2];simp only[n3];by_cases u:x=p;·subst u;erw[kQ h.1];simp[hk]
    · erw[show(x==p)=Yc from by simpa using u];by_cases hp:F p=Y6 .local;·simp[hp]
      ·simp[hp,u]
theorem hV{x:Yg}{k:dJ}:∀{names:Yb<|Str×dJ},keyed names->(x,k)∈names->names.lookup x=Y6 k:=by intro l;induction l with|nil=>exactλz h=>tq h|cons p r u=>
  obtain⟨y,F⟩:=p;intro h hm;simp only[IR,j0]at h;rcases Yn.mp hm with q|q;.injection q with q h_;subst q h_;simp[n3]
  .simp only[n3];erw[show(x==y)=Yc from by simpa using by have:=Yx.mp h.1 _ q;simpa using this];exact u h.2 q
theorem zZ{x:Yg}{k:dJ}:∀{names:Yb<|Str×dJ},names.lookup x=Y6 k->(x,k)∈names:=by intro I;induction I with|nil=>exactλh=>lz h|cons zp r F=>obtain⟨y,J⟩:=zp;intro h;simp only[n3]at h;cases u:x==y with|true=>rw[u]at h;obtain rfl:=c0 h;erw[show x=y from by simpa using u];exact .head _|false=>rw[u]at h;exact .tail _<|F h
theorem uF{x:Yg}:∀{names:Yb<|Str×dJ}{n:Y9}{acc:Yb<|Str×YF},(acc.lookup x).isSome=Ye\/(x,YH)∈names->((YK n names acc).lookup x).isSome:=by intro I;induction I with
 |nil=>
  intro n acc h;rcases h with h|h;.exact h
  .cases h|cons zp r u=>
  obtain⟨y,k⟩:=zp;intro n acc h;unfold YK;by_cases hk:(k==YH)=Ye;.rw[d9 hk];refine u ?_;simp only[n3];cases F:x==y with|true=>exact .inl Y7|false=>
    rcases h with h|h;.exact .inl h
    .rcases Yn.mp h with q|q;.injection q with q;subst q;simp at F
     .exact .inr q
  .rw[d8 hk];refine u ?_;rcases h with h|h;.exact .inl h
   .rcases Yn.mp h with q|q;.injection q with q h_;subst q h_;exact g9 Y7 hk
    .exact .inr q
section
variable{P:mx}{fr:Ln}{A:cG}{env:Zk}{W W':Wd}{σ σ':St}{s s':j8}
theorem Rz{bv:Yb<|Str×V}{N:Yg->Yd n4}{all:Yb<|Str×YF}{L:Y9}(O:∀x c,(x,c)∈all->s'.heap.IsCell c (N x))(T:∀x,Ro W σ.n (bv.lookup x) (N x)\/∀c,(x,c)∉all):∀(names:Yb<|Str×dJ)(n:Y9)(acc:Yb<|Str×YF)(cel:Yb<|Str×Y9)(H:Hp)(W':Wd),(∀p∈YK n names acc,p∈all)->kc P fr env W σ s W' {σ with h:=H} s'->s.heap.get? L=Y8->L<n->s.heap.objs.size<=n->qi P fr W' H.n L->(∀a,n<=a->qi P fr W' H.n a)->(∀x k,cel.lookup x=Y6 k->k<H.n/\acc.lookup x=Y6 (W'.c k))->∃W'',kc P fr env W σ s W'' {σ with h:=(kv bv names H cel).1} s'/\qi P fr W'' (kv bv names H cel).1.n L/\∀x k,(kv bv names H cel).2.lookup x=Y6 k->k<(kv bv names H cel).1.n/\(YK n names acc).lookup x=Y6 (W''.c k):=by intro names;induction names with|nil=>exactλn acc cel H W' z st z z z J z hc=>⟨W',st,J,hc⟩|cons zp r Y=>
  obtain⟨x,k⟩:=zp;intro n acc cel H W' u st hL U F J X hc;unfold YK at u|-;erw[G3];by_cases hk:(k==YH)=Ye
  .rw[d9 hk]at u|-;erw[d9 hk];have hm:=u _<|(by intro names;induction names with|nil=>exactλz z z h=>h|cons hd tl Z=>
     intro m ac p h;obtain⟨y,ky⟩:=hd;unfold YK;split;.exact Z _ _ _<|.tail _ h
     .exact Z _ _ _ h:∀(names:Yb<|Str×dJ)(m:Y9)(ac:Yb<|Str×YF),∀p∈ac,p∈YK m names ac) _ _ _ _<|.head _;refine am (O x n hm) λob e1 I=>?_;obtain wl:=W'.I H.n n;obtain ρn:(W'.add H.n n).c H.n=n:=bj Y7 Y7;have S:∀a,a≠n->qi P fr W' H.n a->qi P fr (W'.add H.n n) (H.n+1) a:=λa a1 o=>⟨o.g,o.d,o.f,λj hj=>by
    rcases ZD.mp hj with h|h;.erw[wl.d j h];exact o.b j h
    .subst h;erw[ρn];exact gP a1⟩;refine Y (n+1) ((x,n)::acc) ((x,H.n)::cel) (H.add<|.cell<|bv.lookup x) (W'.add H.n n) u (kc.jr (o:=.cell<|bv.lookup x) st (gD F) e1 (X n<|j7 _)<|by
    rcases T x with q|q;.revert q I;cases bv.lookup x with
     |none=>cases N x with|none=>exactλI z=>.L I|some _=>exactλz q=>q.elim
     |some v=>cases N x with|none=>exactλz q=>q.elim|some c=>exactλI q=>.cell I<|(VR.mono st.w.d st.w.le q).mono wl<|fM _
    .exact g9 hm<|q n) hL (n7 U) (n7 F) (S L (v9 U) J) (λa h=>S a (eZ h)<|X a<|n6 h) λy j hj=>?_;simp only[n3]at hj|-;cases hq:y==x with|true=>rw[hq]at hj;obtain rfl:=c0 hj;exact⟨u8 _,by rw[ρn]⟩|false=>rw[hq]at hj;obtain⟨p,q⟩:=hc y j hj;exact⟨dI p,by erw[wl.d j p];exact q⟩
  .rw[d8 hk]at u|-;erw[d8 hk];exact Y n acc cel H W' u st hL U F J X hc
end
structure BX(P:mx)(f:YF)(fd:Zx)(ps:Yb Yg)(body:Yb YW):Prop where
 a:∃o,P.B.get? f=Y6 o/\o.data=.func fd
 lim:P.B.NoLimit
 code:P.B.CodeRec fd.code fd.qualname
 e:fd.body=.stmts body
 i:fd.closure=[]g:fd.globals=dY
 h:fd.builtins=fL
 d:∀s:j8,(∀b o,P.B.get? b=Y6 o->s.heap.get? b=Y6 o)->∀cargs:Lv,cargs.length=ps.length->BindsTo s fd ⟨cargs,[]⟩ (ps.zip cargs)c:jT fd.scope ps=Ye
section
variable{P:mx}{fr:Ln}{A:cG}{env:Zk}{W W':Wd}{σ σ':St}{s s':j8}{cx:Sx}
def RA(P:mx)(lv:Y9)(sc:Yt)(body:Yb YW)(aT:St)(r:Rs Fl):Prop:=∀fr A env W s,ue P lv fr A env->qb sc env->lb P fr W aT.h s->lm P env W aT s.heap->Yi P.M A (execs body env) (pi P fr env W aT s r) nu s
set_option backward.match.sparseCases true in set_option tactic.hygienic true in theorem RB{lv:Nat}{f:Addr}{J:FuncData}{ps:List Str}{body:List Stmt}(K:BX P f J ps body){r:Rs Fl}{args:List V}{cargs:Lv}(hb:RA P lv J.scope body (li J.scope (ps.zip args) σ.h) r)(F:Fm P (lv+1) fr A env)(I:lb P fr W σ.h s)(L:lm P env W σ s.heap)(ha:ll W σ.n args cargs)(af:args.length=ps.length)(X:∀fl σ',r=.c fl σ'->sk fl σ'≠.b):codeAny P.M A (.call (.ref f) ⟨cargs,[]⟩) (λx s'=>match x with|.ok<|.ret v=>kq P fr env W σ s ((r.F sk).I σ) v s'|.ok _=>False|.error e=>nu e s') s:=by
 refine am K.a λo ho hd=>?_;obtain ho':=I.f f o ho;obtain hsh:=K.c;simp only[jT,j0,v1,fU]at hsh;obtain⟨⟨⟨⟨⟨⟨k1,k2⟩,k3⟩,k4⟩,k5⟩,k6⟩,k7⟩:=hsh;refine codeAny_call_function (by have:=F.d;exact ek this) ho' hd k2 k3 K.e (K.code.keeps I.f)<|K.d s I.f cargs (ha.N.trans af) _ _ _ _ ?_;erw[K.i];refine wpAny_newFunctionEnv_cells k1 ((λn x av=>by
  have:=Yx.mp k7 _<|(pT (a:=x.1) (b:=x.2) av).1;simp only[fX,v1]at this;rcases this with q|q;.exact .inl q
  .exact .inr ⟨q,uF<|.inr<|zZ q⟩:∀n,∀x∈ps.zip cargs,J.scope.names.lookup x.1=Y6 .local\/J.scope.names.lookup x.1=Y6 .cell/\((YK n J.scope.names []).lookup x.1).isSome=Ye) _) λb2 he a9 x=>?_;subst he;refine⟨(K.lim.keeps I.f).keeps x.toInCall.keep,codeAny_func<|bw x.done λaF tk es bV=>?_⟩;generalize a5:s.heap.objs.size=LL at x;have Y:s.heap.get? LL=Y8:=a5▸xH _;generalize O:newEnv J.scope LL J.globals (YK (LL+1) J.scope.names []) (J.qualname++".<locals>.") (Y6 f) J.code Y8 J.builtins=cenv at x;obtain c1:cenv.scope=J.scope:=by refine pd O ?_;rfl
 obtain c2:cenv.locals=LL:=by refine pd O ?_;rfl
 have c3:cenv.cells=YK (LL+1) J.scope.names []:=by refine pd O ?_;rfl
 obtain c4:cenv.globals=dY:=by refine pd O ?_;exact K.g
 obtain c5:cenv.builtins=fL:=by refine pd O ?_;exact K.h
 obtain c6:cenv.frame=Y6 LL:=by refine pd O ?_;rfl
 have S:∀y,cenv.kindOf y=J.scope.names.lookup y:=λy=>by unfold Env.kindOf;exact zJ5 c1 Y7
 obtain g1:a9.gens=s.gens:=by exact zJ5 es Y7
 obtain g2:a9.os=s.os:=by exact zJ5 es Y7
 obtain cZ:∀b o,s.heap.get? b=Y6 o->a9.heap.get? b=Y6 o:=λb o e=>by erw[es];exact bV b o e
 obtain bJ:=kc.grow I L cZ g1 g2;obtain hmemcell:∀(names:Yb<|Str×dJ)(n:Y9)(acc:Yb<|Str×YF)(y:Yg)(c:YF),(y,c)∈YK n names acc->(y,c)∈acc\/(y,YH)∈names:=by intro names;induction names with|nil=>exactλw w w w h=>.inl h|cons U tl T=>
   intro n acc y c h;obtain⟨z,kz⟩:=U;unfold YK at h;split at h
   .rename_i hz;rcases T _ _ _ _ h with q|q
    .rcases Yn.mp q with q|q;.injection q with q;subst q;right;erw[show kz=YH from by simpa using hz];exact .head _
     .exact .inl q
    .exact .inr<|.tail _ q
   .rcases T _ _ _ _ h with q|q;.exact .inl q
    .exact .inr<|.tail _ q
 have a0:∀y c,(y,c)∈YK (LL+1) J.scope.names []->a9.heap.IsCell c (bindC cenv.kindOf (ps.zip cargs) (λw=>Y8) y):=λy c hm=>by refine x.cell y c ?_;erw[c3];exact lookup_of_mem_nodup ((by intro names;induction names with|nil=>exactλw w w h w=>h|cons U tl T=>
   intro n acc Z ac a4;obtain⟨z,kz⟩:=U;simp only[IR,j0]at Z;unfold YK;split
   .refine T _ _ Z.2 ?_ λp hp q N=>?_;.simp only[gH,List.nodup_cons];exact⟨λhm=>am (YD.mp hm) λp hp e=>a4 p hp _ (.head _) e.symm,ac⟩
    .rcases Yn.mp hp with e|e;.subst e;have:=Yx.mp Z.1 q N;simpa using this
     .exact a4 p e q<|.tail _ N
   .exact T _ _ Z.2 ac λp hp q N=>a4 p hp q<|.tail _ N:∀(names:List<|Str×dJ)(n:Nat)(acc:List<|Str×Addr),keyed names=true->(acc.map (·.1)).Nodup->(∀p∈acc,∀q∈names,q.1≠p.1)->((cellsFrom n names acc).map (·.1)).Nodup) _ _ _ k4 iu λp hp=>by cases hp) hm
 have ah:∀y,Ro W σ.n ((ps.zip args).lookup y) (bindC cenv.kindOf (ps.zip cargs) (λw=>Y8) y)\/∀c,(y,c)∉YK (LL+1) J.scope.names []:=λy=>by
  by_cases hy:(y,YH)∈J.scope.names;.left;erw[JK (by rw[S,hV k4 hy];intro q;cases q) k6];have:=uJ y ps ha;cases h1:(ps.zip cargs).lookup y with|none=>rw[h1]at this;exact this|some c=>rw[h1]at this;exact this
  .right;intro c hm;rcases hmemcell _ _ _ _ _ hm with q|q;.cases q
   .exact hy q
 refine bo (Rz (L:=LL) (bv:=ps.zip args) a0 ah J.scope.names (LL+1) [] [] σ.h W (λp hp=>hp) bJ Y (u8 _) (Nat.le.step<|eJ a5) (qi.new I Y)
  (λa h=>qi.new I<|gD<|a5▸t9 h)<|λy k h=>by cases h) λaC aA oL ai=>?_;refine cy x.toInCall.ns λoF bh bg f1 f2 f3=>?_;rw[c2]at f1;obtain bW:=lb.under aA.f oL f1 λvs q=>by rw[f2]at q;cases q
 have bX:lm P cenv aC (li J.scope (ps.zip args) σ.h) a9.heap:=by
  refine⟨by erw[c1];exact k1,c4,c5,⟨_,x.toInCall.ns,λy v h=>?_⟩,λy k h=>?_,λk q h=>by cases h⟩;.obtain⟨p1,p2⟩:=(by intro l;induction l with|nil=>intro h;cases h|cons U tl T=>intro h;obtain⟨z,u⟩:=U;simp only[List.filter]at h;cases hz:J.scope.names.lookup z==Y6 NameKind.local with
     |true=>rw[hz]at h;simp only[n3]at h⊢;cases N:y==z with
      |true=>
       rw[N]at h;have e:y=z:=by simpa using N
       subst e;exact⟨by simpa using hz,h⟩|false=>rw[N]at h;exact T h
     |false=>rw[hz]at h;obtain⟨p1,p2⟩:=T h;refine⟨p1,?_⟩;simp only[n3];cases N:y==z with
      |true=>
       have e:y=z:=by simpa using N
       subst e;rw[p1]at hz;simp at hz|false=>exact p2:∀(l:List<|Str×V),(l.filter<|λp=>J.scope.names.lookup p.1==some .local).lookup y=some v->J.scope.names.lookup y=some .local/\l.lookup y=some v) _ h;obtain X:=uJ y ps ha;rw[p2]at X;refine⟨by rw[S];exact p1,?_⟩;cases h1:(ps.zip cargs).lookup y with|none=>rw[h1]at X;exact X.elim|some c=>rw[h1]at X;refine⟨c,?_,VR.mono aA.w.d aA.w.le X⟩;rw[JJ k6,S,p1,h1];rfl
  .obtain⟨p,q⟩:=ai y k h;exact⟨p,λw=>by erw[c3];exact q⟩
 have bY:qb J.scope cenv:=by
  refine⟨λy h=>by rw[S];exact h,λy h=>by rw[S];exact h,λy h=>by rw[S];exact h,λy h=>by rw[S];exact h,λy h=>?_⟩;rw[S]at h;erw[c3];rcases h with h|h;.have:=uF (n:=LL+1) (acc:=[])<|.inr<|zZ h;exact YU.mp this
  .have:=Yx.mp k5 _<|zZ h;simp at this
 refine am F.frames λlf ad ar=>?_;obtain bZ:ue P lv (LL::fr) (A.deeper cenv) cenv:=by
  refine⟨⟨by erw[c2];exact .head _,F.b,by have:=F.g;show A.units+3+_+_<_;exact el this,by have:=F.d;show A.depth+1+_+_<_;exact er this,cenv::lf,by show A.frames.map _=_;erw[ad];rfl,λe he=>?_⟩,⟨lf,by show A.frames.map _=_;erw[ad];rfl⟩,by erw[c2];exact c6⟩;rcases Yn.mp he with q|q;.subst q;exact⟨by refine zJ5 c1<|zJ5 k1 ?_;decide,LL,c6,.head _⟩
  .obtain⟨a1,Lx,a2,a3⟩:=ar e q;exact⟨a1,Lx,a2,.tail _ a3⟩
 have aw:LL≠env.locals:=λq=>by have:=(I.v _ F.f).2;refine am this λo' e' w=>?_;rw[<-q,Y]at e';cases e'
 refine m8 (hb (LL::fr) _ cenv aC _ bZ bY bW bX) (λfl aH zq=>zq.elim λv a8 aG aM aB hv=>?_)<|λe aH h=>h.elim;have ab:=kc.inner (a7:=li J.scope (ps.zip args) σ.h) aA F.f Y c2 aw Y7 aB;have a6:=X _ _ aM;subst aM;cases hv with|a=>exact⟨_,_,aG,Y7,ab,.none⟩|b hv=>exact⟨_,_,aG,Y7,ab,hv⟩|e=>exact g9 Y7 a6|d=>exact g9 Y7 a6
end
def Bm(ps:Yb Yg)(x:X)(cs:Yb<|Str×Y9)(cx:Cx)(args:Yb V)(H:Hp):Rs V:=if args.length=ps.length then ev cx x {h:=H,l:=ps.zip args,e:=cs}else .b
theorem RC{x:Yg}:∀{ps:Yb Yg}{cs:Lv},og ps->(ps.zip cs).reverse.lookup x=(ps.zip cs).lookup x:=by intro I;induction I with|nil=>intro _ _;simp|cons p ps F=>exact@fun|[],_=>by rfl|c::cs,h=>by simp only[uD,j0]at h;rw[nM,oZ,List.lookup_append,F h.2];cases u:x==p with
    |true=>
      obtain e:x=p:=by simpa using u
      subst e;rw[kQ h.1];simp[n3]|false=>simp only[n3,u];cases(ps.zip cs).lookup x<;>rfl
section
variable{P:mx}{fr:Ln}{A:cG}{env:Zk}{W W':Wd}{σ σ':St}{s s':j8}{cx:Cx}{n:Y9}
theorem RD(C:ui P cx)(ab:P.B.NoLimit)(F:Fm P (cx.j+1) fr A env)(I:lb P fr W σ.h s)(L:lm P env W σ s.heap){ps:Yb Yg}{x:X}{cs:Yb<|Str×Y9}{cf:n4}(hv:VR W σ.n (.r ps x cs) cf){args:Yb V}{cargs:Lv}(ha:ll W σ.n args cargs)(U:(Bm ps x cs cx args σ.h).I σ≠.b):zl P.M A cf s/\Yi P.M A (Zm cf cargs []) (kq P fr env W σ s<|(Bm ps x cs cx args σ.h).I σ) nu s:=by
 refine bC λT=>?_;obtain⟨f,o,J,rfl,ag,hd,K⟩:=hv.Z;refine T ?_;have a9:=(I.g _ _ ag).1;refine⟨λE Q hq=>?_,mI ?_⟩;.refine g7<|iD a9 ?_;rw[hd];exact j6<|hq _
 have Z:args.length=ps.length:=by refine lZ λq=>U ?_;unfold Bm;rw[d8 q];rfl
 rw[(by exact bj Z Y7:Bm ps x cs cx args σ.h=ev cx x {h:=σ.h,l:=ps.zip args,e:=cs})]at U⊢;obtain hsh:=K.b;simp only[wJ,j0,v1,fU]at hsh;refine bC λT=>?_;obtain⟨⟨⟨⟨⟨⟨k1,k2⟩,k3⟩,k4⟩,k6⟩,k7⟩,k5⟩:=hsh;obtain⟨body,a5,ak⟩:=K.d;obtain⟨c,oc,vs,t,e1,e2,e3,e4⟩:=K.code;refine T ?_;have u:∀y∈J.scope.names,y.2≠.cell:=λy hy q=>by have:=Yx.mp k5 _ hy;rw[q]at this;exact g9 this iu
 refine kla_callFunE (by have:=F.d;exact ek this) a9 hd k2 k3 a5 ⟨c,oc,vs,t,e1,(I.g _ _ e2).1,e3,e4⟩ ?_;rw[K.c cargs<|ha.N.trans Z];refine j6<|wpAny_newFunctionEnv u (λy hy=>?_) (λaF a0 a4=>⟨?_,?_⟩) k1;.have:=Yx.mp k7 _<|(pT (a:=y.1) (b:=y.2) hy).1;simpa using this
 .exact(ab.keeps I.f).fresh _ a4
 obtain bV:∀b o,s.heap.get? b=Y6 o->aF.get? b=Y6 o:=λb o e=>a4.extBut b o (v9<|rA e)<|eT _ e;generalize ai:s.heap.objs.size=LL at a0 a4;have Y:s.heap.get? LL=Y8:=ai▸xH _;generalize N:newEnv J.scope LL J.globals J.closure (J.qualname++".<locals>.") (Y6 f) J.code Y8 J.builtins=cenv;have c1:cenv.scope=J.scope:=by rw[<-N];rfl
 have c2:cenv.locals=LL:=by rw[<-N];rfl
 have c3:cenv.cells=J.closure:=by rw[<-N];rfl
 refine bC λT=>?_;obtain c6:cenv.frame=Y6 LL:=by rw[<-N];rfl
 have O:∀y,cenv.kindOf y=J.scope.names.lookup y:=λy=>by unfold Env.kindOf;rw[c1]
 have bJ:kc P fr env W σ s W σ {s with heap:=aF,toks:=s.toks+(ps.zip cargs).length}:=kc.grow I L bV Y7 Y7;obtain⟨oF,bb,ba,f1,f2,f3⟩:=id a0;obtain bW:lb P (LL::fr) W ({h:=σ.h,l:=ps.zip args,e:=cs}:St).h {s with heap:=aF,toks:=s.toks+(ps.zip cargs).length}:=lb.under (σ:=σ) bJ.f (qi.new I Y) f1 λvs q=>by rw[f2]at q;cases q
 have bX:lm P cenv W {h:=σ.h,l:=ps.zip args,e:=cs} aF:=by
  refine⟨by rw[c1];exact k1,by rw[<-N];exact K.g,by rw[<-N];exact K.i,⟨_,by rw[c2];exact a0,λy v h=>?_⟩,λy k h=>?_,λk q h=>lz h⟩;.obtain S:=uJ y ps ha;have h':(ps.zip args).lookup y=Y6 v:=h;rw[h']at S;refine⟨by rw[O];simpa using Yx.mp k7 _<|(pT<|qX h').1,?_⟩;cases h1:(ps.zip cargs).lookup y with|none=>rw[h1]at S;exact S.elim|some c=>rw[h1]at S;exact⟨c,by rw[RC k6];exact h1,S⟩
  .obtain⟨p,q⟩:=K.e y k h;refine⟨p,λhk=>?_⟩;rw[O]at hk;rw[c3];rcases hk with hk|hk;.exact g9 Y7<|u _<|qX hk
   .exact q hk
 have bY:qb J.scope cenv:=by
  refine⟨λy h=>by rw[O];exact h,λy h=>by rw[O];exact h,λy h=>by rw[O];exact h,λy h=>by rw[O];exact h,λy h=>?_⟩;rw[O]at h;rw[c3];rcases h with h|h;.exact g9 Y7<|u _<|qX h
  .exact K.f y h
 obtain⟨lf,ap,ah⟩:=F.frames;obtain bZ:Fm P cx.j (LL::fr) (A.deeper cenv) cenv:=by
  refine⟨by rw[c2];exact .head _,F.b,by have:=F.g;show A.units+3+_+_<_;exact el this,by have:=F.d;show A.depth+1+_+_<_;exact er this,cenv::lf,by show A.frames.map _=_;rw[ap];rfl,λe he=>?_⟩;rcases Yn.mp he with q|q;.subst q;exact⟨by rw[c1,k1];decide,LL,c6,.head _⟩
  .obtain⟨a1,Lx,a2,a3⟩:=ah e q;exact⟨a1,Lx,a2,.tail _ a3⟩
 obtain hLC:LL≠env.locals:=λq=>by refine bC λT=>?_;obtain⟨o',e',_⟩:=(I.v _ F.f).2;refine T ?_;rw[<-q,Y]at e';cases e'
 refine T ?_;refine kla_codeExpr<|m8 ((ml C ak (LL::fr) _ cenv bZ bY).1 W _ _ bW bX<|by intro q;rw[q]at U;exact U Y7) (λv aH zq=>zq.elim λr a8 aG aM aB S=>?_)<|λe aH h=>h.elim;exact⟨r,_,aG,by rw[aM];rfl,kc.inner (a7:={h:=σ.h,l:=ps.zip args,e:=cs}) bJ F.f Y c2 hLC Y7 aB,S⟩
theorem FR.Y{x:Yg}{fs:Yb<|Str×V}{es:Yb gM}(h:FR W n fs es):Ro W n (fs.lookup x) ((es.find? (·.key.isStr x)).map (·.val))/\es.any (·.refKey)=Yc:=by induction fs generalizing es with|nil=>obtain rfl:es=[]:=h;exact⟨YY,Y7⟩|cons p fs F=>obtain⟨hs,t,c,es,rfl,hv,r⟩:=h;obtain⟨y,v⟩:=p;obtain⟨h1,h2⟩:=F r;simp only[n3,List.find?];obtain e:(Value.str y t).isStr x=(y==x):=Y7;erw[e];cases u:x==y with|true=>have:y=x:=(ZC.mp u).symm;subst this;simp only[iI,mC];exact⟨hv,by simpa[sX]using h2⟩|false=>obtain e:(y==x)=Yc:=Yl.mpr λq=>Yl.mp u q.symm;erw[e];exact⟨h1,by simpa[sX]using h2⟩
theorem FR.Z{x:Yg}{fs:Yb<|Str×V}{es:Yb gM}{e:Y9}(h:FR W n fs es):∃r,lookIn x (dictOf es e)=Y6 r/\Ro W n (fs.lookup x) r:=by obtain⟨h1,h2⟩:=FR.Y (x:=x) h;unfold lookIn;dsimp only;cases u:es.find? (·.key.isStr x)with|none=>rw[u]at h1;dsimp only;erw[d8<|by rw[h2];decide];exact⟨Y8,Y7,h1⟩|some en=>rw[u]at h1;exact⟨Y6 en.val,Y7,h1⟩
theorem FR.d6{x:Yg}{v:V}{c:n4}{hs:Yh}{t:b_}{f:Yd gM->gM}(f0:f Y8=⟨hs,.str x t,c⟩)(f1:∀e,f (Y6 e)={e with val:=c})(hv:VR W n v c){fs:Yb<|Str×V}{es:Yb gM}(r:FR W n fs es){F:Yb gM}{b:Yj}(h:nsPutIn x.cps.size x.cps.toList f es=(F,b)):FR W n (kn x v fs) F/\F.length<=es.length+1:=by induction fs generalizing es F b with|nil=>obtain rfl:es=[]:=r;injection h with h;subst h;rw[f0];exact⟨.T hv .cr,j7 _⟩|cons p fs L=>obtain⟨O,u,d,es,rfl,hy,r⟩:=r;obtain⟨y,w⟩:=p;obtain e:(Value.str y u).isStrByCps x.cps.size x.cps.toList=(y==x):=Value.isStrByCps_eq _ _;unfold nsPutIn at h;rw[D8];dsimp only at h;replace h:=e▸h;cases I:x==y with|true=>have:y=x:=(ZC.mp I).symm;subst this;replace h:=(d9<|by simp).symm.trans h;injection h with h;subst h;rw[f1];exact⟨.T hv r,by simp⟩|false=>rw[(Yl.mpr λq=>Yl.mp I q.symm:(y==x)=Yc),xb]at h;cases hp:nsPutIn x.cps.size x.cps.toList f es with|mk S N=>rw[hp]at h;injection h with h;subst h;obtain⟨e2,J⟩:=L r hp;exact⟨.T hy e2,by simp;exact J⟩
set_option tactic.hygienic true in theorem FR.U{x:Str}{v:V}{c:n4}{hs:Int}{t:Tok}{e:Nat}{fs:List<|Str×V}{es:List gM}(hv:VR W n v c)(h:FR W n fs es):∃u I,Obj.putName x hs (.str x t) c (dictOf es e)=dictOf u I/\FR W n (kn x v fs) u/\u.length<=es.length+1:=by
 unfold Obj.putName;dsimp only;split;.rename_i u hp;obtain⟨e2,F⟩:=FR.d6 Y7 (λq=>Y7) hv h hp;exact⟨_,_,Y7,e2,F⟩
 .rename_i u hp;obtain⟨e2,F⟩:=FR.d6 Y7 (λq=>Y7) hv h hp;exact⟨_,_,Y7,e2,F⟩
theorem FR.X{fs:Yb<|Str×V}{es:Yb gM}(h:FR W n fs es):es.length=fs.length:=by induction fs generalizing es with|nil=>obtain rfl:es=[]:=h;rfl|cons p r u=>obtain⟨s,t,c,es,rfl,a,b⟩:=h;exact i6 sA<|u b
end
structure xn(P:mx)(K:L_)(C:YF):Prop where
 a:K.In P.B
 b:makesIn K C=Ye
 d:n_ K (.ref C) "__getattribute__"=Y6 (Y6<|.builtin "object.__getattribute__")e:n_ K (.ref C) "__getattr__"=Y6 Y8
 f:n_ K (.ref C) "__setattr__"=Y6 (Y6<|.builtin "object.__setattr__")c:plainOver K C=Ye
 dict:hasDictIn K C=Ye
section
variable{P:mx}{fr:Ln}{A:cG}{env:Zk}{W W':Wd}{σ σ':St}{s s':j8}{cx:Sx}{K:L_}{C:YF}
theorem G4(I:lb P fr W σ.h s){k d:Y9}{fs:Yb<|Str×V}(hk:σ.o k=Y6 (.c C d))(hd:σ.o d=Y6 (.dict fs)):∃es e,FR W σ.n fs es/\d<σ.n/\k<σ.n/\s.heap.get? (W.c d)=Y6 (dictOf es e)/\InstAt s.heap (W.c k) (instObj C<|W.c d) C (Y6<|dictOf es e):=by refine bC λu=>?_;obtain⟨p,c,h1,rfl,_⟩:=I.o k _ hk;obtain⟨q,c',h3,_,_,rfl,h5⟩:=I.o d _ hd;exact u ⟨_,_,h5,q,p,h3,h1,Y7,Y7,h3⟩
theorem RE{Q:Pv}{E:Pv}(X:xn P K C)(I:lb P fr W σ.h s){k d:Y9}{fs:Yb<|Str×V}(hk:σ.o k=Y6 (.c C d))(hd:σ.o d=Y6 (.dict fs)){f:Yg}{v:V}(L:n_ K (.ref C) f=Y6 Y8)(hv:fs.lookup f=Y6 v)(N:∀c,VR W σ.n v c->handedIn c)(J:∀c t,VR W σ.n v c->Q c {s with toks:=t}):Yi P.M A (getAttr (.ref<|W.c k) f Ye) Q E s:=by refine dg (G4 I hk hd) λes e F q q h1 u=>am (F.Z (x:=f) (e:=e)) λr h2 h3=>?_;rw[hv]at h3;cases r with|none=>exact h3.elim|some c=>exact get_value (X.a.keeps I.f) u X.d (findObj_own X.dict L Y7 h2) (N c h3)<|J c _ h3
end
set_option backward.match.sparseCases true in def uk(C:Addr)(u:List V->Hp->Rs V)(args:List V)(H:Hp):Rs V:=match u (.g (H.n+1)::args)<|(H.add<|.dict []).add (.c C H.n)with|.c .none σ=>.c (.g<|H.n+1) σ|_=>.b
section
variable{P:mx}{fr:Ln}{A:cG}{env:Zk}{W W':Wd}{σ σ':St}{s s':j8}{cx:Sx}{K:L_}{C:YF}
theorem Fm.under{lv u:Y9}{C:YF}{as:Lv}(F:Fm P lv fr A env)(h:u+1<=lv):Fm P u fr (A.under<|.builtin "type.__call__" ⟨.ref C::as,[]⟩) env:=by
 refine⟨F.f,F.b,?_,?_,by refine ?_;exact F.frames⟩;.have:=F.g;refine ?_;exact gi h this
 .have:=F.d;refine ?_;exact gj h this
set_option backward.match.sparseCases true in theorem wp{lv:Nat}{u:List V->Hp->Rs V}{fI:Addr}(X:xn P K C)(hi:findIn K (.ref C) "__init__"=some (some<|.ref fI))(hf:typeIn K (.ref fI)=some (.type "function"))(hc:∀fr A env,Fm P lv fr A env->∀W σ s,lb P fr W σ.h s->lm P env W σ s.heap->∀args cargs,ll W σ.n args cargs->(u args σ.h).I σ≠.b->codeAny P.M A (.call (.ref fI) ⟨cargs,[]⟩) (λr s'=>match r with|.ok<|.ret v=>kq P fr env W σ s ((u args σ.h).I σ) v s'|.ok _=>False|.error e=>nu e s') s)(F:Fm P (lv+1) fr A env)(I:lb P fr W σ.h s)(L:lm P env W σ s.heap){args:List V}{cargs:Lv}(ha:ll W σ.n args cargs)(N:(uk C u args σ.h).I σ≠.b):zl P.M A (.ref C) s/\wpAny P.M A (call (.ref C) cargs []) (kq P fr env W σ s<|(uk C u args σ.h).I σ) nu s:=by
  obtain⟨⟨oc,od,cd,sl,Y,e1,e2,e4⟩,U,base,self,top,call,a4⟩:=makes_of (M:=P.M) (X.a.keeps I.f) X.b;refine⟨λE Q S=>?_,?_⟩;·refine g7<|iD Y ?_;exact g7<|call.at<|j6<|S _
  obtain⟨J,g,d,t,os⟩:=s;refine mI<|make_core (makes_of (M:=P.M) (X.a.keeps I.f) X.b) (looks_findIn (X.a.keeps I.f) hi) (λself=>bind_fn (X.a.keeps I.f) self hf) (.inl Y7) ?_;obtain aA:=kc.add (s:=⟨J,g,d,t,os⟩) (s':=⟨J.push e_,g,d,t,os⟩) I L (.dict []) e_ (.dict (es:=[]) .cr) Y7 Y7 Y7;have st:kc P fr env W σ ⟨J,g,d,t,os⟩ ((W.add σ.n J.objs.size).add (σ.n+1) (J.push e_).objs.size) ((σ.add<|.dict []).add<|.c C σ.n) ⟨(J.push e_).push<|instObj C J.objs.size,g,d,t,os⟩:=aA.cr<|kc.add aA.f aA.l (.c C σ.n) (instObj C J.objs.size) (by obtain key:=OR.U (n:=σ.n+1+1) (C:=C) (d:=σ.n) (by lia);rw[((W.add σ.n J.objs.size).I (σ.n+1) (J.push e_).objs.size).d σ.n<|u8 _,(by exact bj Y7 Y7:(W.add σ.n J.objs.size).c σ.n=J.objs.size)]at key;exact key) Y7 Y7 Y7;generalize hW:(W.add σ.n J.objs.size).add (σ.n+1) (J.push e_).objs.size=aG at st;have O:aG.c (σ.n+1)=J.objs.size+1:=by rw[<-hW];show(if σ.n+1=σ.n+1 then _ else _)=_;rw[d9 Y7,lL]
  obtain hmk:uk C u args σ.h=match u (.g (σ.n+1)::args) ((σ.add<|.dict []).add<|.c C σ.n).h with|.c .none σ'=>.c (.g<|σ.n+1) σ'|_=>.b:=Y7;refine r_ (hc fr _ env (F.under<|j7 _) aG _ _ st.f st.l _ _ (by refine .S ?_<|ha.mono st.w.d st.w.le;rw[<-O];exact .ju<|by simp:ll aG (σ.n+1+1) (.g (σ.n+1)::args)<|.ref (J.objs.size+1)::cargs)<|by intro q;refine N ?_;rw[hmk];cases S:u (.g (σ.n+1)::args) ((σ.add<|.dict []).add<|.c C σ.n).h with|c v σ'=>rw[S]at q;cases q|b=>rfl) λr s' z=>?_;cases S:u (.g (σ.n+1)::args) ((σ.add<|.dict []).add<|.c C σ.n).h with
  |c v σ'=>rw[S]at z hmk;cases r with|error e=>exact z.elim|ok fl=>cases fl with
     |ret cv=>obtain⟨v',aE,Z,q,T,hv⟩:=z;injection q with q h_;subst q h_;cases v with|none=>cases hv;refine⟨Y7,_,_,Z,by rw[hmk];rfl,st.cr T,?_⟩;have:=(VR.ju (W:=aG) (n:=σ.n+1+1) (k:=σ.n+1)<|by simp).mono T.w.d T.w.le;rw[O]at this;exact this|_=>rw[hmk]at N;exact g9 Y7 N
     |_=>exact z.elim
  |b=>rw[S]at hmk;rw[hmk]at N;exact g9 Y7 N
end
def nj(v:V)(H:Hp):Rs V:=.c v {h:=H,l:=[]}
def Bn(v:V)(H:Hp):Rs V:=match kt v with|some x=>nj (.d x.length) H|none=>(lj H v).elim .b λxs=>nj (.d xs.length) H
def Bo(args:Yb V)(H:Hp):Rs V:=match args with|[a]=>(qV a).elim .b λn=>if Yy 0 n 1 then nj (.q 0 n 1) H else .b|[a,b]=>(qV a).elim .b λa=>(qV b).elim .b λb=>if Yy a b 1 then nj (.q a b 1) H else .b|[a,b,c]=>(qV a).elim .b λa=>(qV b).elim .b λb=>(qV c).elim .b λc=>if c≠0/\Builtin.divisionGoesByPylong (b-a) c=Yc/\Yy a b c then nj (.q a b c) H else .b|_=>.b
def xD(v x:V)(H:Hp):Rs V:=(xk H v).elim .b λq=>if q.2.length+1<=k8 then nj .none {H with o:=λj=>if j=q.1 then Y6<|.a<|q.2++[x]else H.o j}else .b
theorem uH{H:Hp}{k:Y9}{x:V}{xs:Yb V}(h:H.o k=Y6 (.a xs))(hz:xs.length+1<=k8):xD (.g k) x H=nj .none {H with o:=λj=>if j=k then Y6<|.a<|xs++[x]else H.o j}:=by show((sv<|H.o k).map λxs=>(k,xs)).elim Rs.b _=_;erw[h];exact d9 hz
theorem JL{H:Hp}{v x:V}(h:xD v x H≠.b):∃k xs,v=.g k/\H.o k=Y6 (.a xs)/\xs.length+1<=k8:=by refine bC λu=>?_;obtain⟨⟨k,xs⟩,e⟩:=qP h;obtain⟨rfl,F⟩:=jB e;refine u ?_;refine⟨k,xs,Y7,F,lZ λq=>h ?_⟩;show(xk H<|.g k).elim Rs.b _=_;erw[e];exact d8 q
section
variable{P:mx}{fr:Ln}{A:cG}{env:Zk}{W W':Wd}{σ σ':St}{s s':j8}{cx:Sx}
theorem kO{r:Rs V}{v:V}{c:n4}{t:Y9}(I:lb P fr W σ.h s)(L:lm P env W σ s.heap)(e:r=nj v σ.h)(hv:VR W σ.n v c):kq P fr env W σ s (r.I σ) c {s with toks:=t}:=⟨v,σ,W,by erw[e];rfl,kc.toks I L t,hv⟩
theorem uZ{r:Rs V}(h:r.I σ≠.b):r≠.b:=λq=>h<|by erw[q];rfl
theorem Bp{o:Yd Yh}{f:Yh->Rs V}{σ:St}(h:(o.elim .b f).I σ≠.b):∃a,o=Y6 a:=by cases o with|none=>exact g9 Y7 h|some a=>exact⟨a,Y7⟩
theorem G5{c:Prop}[Zf c]{a:Rs V}{σ:St}(h:(if c then a else .b).I σ≠.b):c:=by
 by_cases q:c;.exact q
 .rw[d8 q]at h;exact g9 Y7 h
theorem yS(I:lb P fr W σ.h s)(L:lm P env W σ s.heap){a b c:Yh}{t u v:b_}(F:Yy a b c){k:Y9}:kq P fr env W σ s ((nj (.q a b c) σ.h).I σ) (.ref s.heap.objs.size) {s with heap:=s.heap.push {cls:=.type "range",data:=.fields #[.int a t,.int b u,.int c v]},toks:=k}:=⟨_,_,_,Y7,kc.d6 I L {cls:=.type "range",data:=.fields #[.int a t,.int b u,.int c v]} Y7 Y7 Y7 Y7,.jx (bj Y7 Y7) F⟩
theorem RG(I:lb P fr W σ.h s)(L:lm P env W σ s.heap){args:Yb V}{cargs:Lv}(N:ll W σ.n args cargs)(F:(Bo args σ.h).I σ≠.b):Yi P.M A (Zm (.type "range") cargs []) (kq P fr env W σ s<|(Bo args σ.h).I σ) nu s:=by cases args with|nil=>exact g9 Y7 F|cons x r=>obtain⟨_,_,rfl,h1,N⟩:=N.O;cases r with|nil=>obtain rfl:=N.T;obtain⟨n,e⟩:=Bp F;obtain rfl:=qJ e;obtain⟨t,rfl⟩:=h1.U;have J:=G5 F;show Yi P.M A _ (kq P fr env W σ s<|(if _ then _ else _:Rs V).I σ) nu s;erw[d9 J];exact call_range_1<|yS I L J|cons y r=>obtain⟨_,_,rfl,h2,N⟩:=N.O;cases r with|nil=>obtain rfl:=N.T;obtain⟨a,e⟩:=Bp F;obtain rfl:=qJ e;obtain⟨b,e⟩:=Bp F;obtain rfl:=qJ e;obtain⟨t,rfl⟩:=h1.U;obtain⟨u,rfl⟩:=h2.U;obtain J:=G5 F;show Yi P.M A _ (kq P fr env W σ s<|(if _ then _ else _:Rs V).I σ) nu s;erw[d9 J];exact call_range_2<|yS I L J|cons z r=>obtain⟨_,_,rfl,h3,N⟩:=N.O;cases r with|nil=>obtain rfl:=N.T;obtain⟨a,e⟩:=Bp F;obtain rfl:=qJ e;obtain⟨b,e⟩:=Bp F;obtain rfl:=qJ e;obtain⟨c,e⟩:=Bp F;obtain rfl:=qJ e;obtain⟨t,rfl⟩:=h1.U;obtain⟨u,rfl⟩:=h2.U;obtain⟨v,rfl⟩:=h3.U;obtain J:=G5 F;show Yi P.M A _ (kq P fr env W σ s<|(if _ then _ else _:Rs V).I σ) nu s;erw[d9 J];exact call_range_3 J.1 (yS I L J.2.2)<|.inl J.2.1|cons _ _=>exact g9 Y7 F
theorem RH(I:lb P fr W σ.h s)(L:lm P env W σ s.heap)(hL:env.locals∈fr){v x:V}{c d:n4}(hv:VR W σ.n v c)(T:VR W σ.n x d)(N:(xD v x σ.h).I σ≠.b):Yi P.M A (Zm (.builtin "list.append") [c,d] []) (kq P fr env W σ s<|(xD v x σ.h).I σ) nu s:=by
 refine bC λu=>?_;obtain⟨k,xs,rfl,J,hz⟩:=JL<|λq=>uZ N q;obtain⟨rfl,hk⟩:=hv.cB;rw[uH J hz]at u;obtain⟨_,U,hg,S⟩:=I.o _ _ J;obtain⟨items,e,rfl,r,z⟩:=S.I;refine u<|rB pH ⟨_,hg,Y7⟩ oV (PySem.F.args_list_append_2 _ _) (list_append _ items e d z) ⟨hg,?_⟩;refine⟨_,σ.N k<|.a<|xs++[x],W,Y7,kc.ju I L hk hL (.a<|xs++[x]) (.J (e:=_) ?_ ?_) (λb o O e=>((mA ..).2 b O).trans e) (IsL.update (n:=e) hg<|λxs=>xs.push d) Y7 Y7,.none⟩;.rw[nR];exact r.X<|.S T .U
 .have:=r.N;rw[n8]at this;simp[hz,this]
end
def BY:Yb V->Yd (Yb Yg):=lr (Y6 []) λv q r=>(kt v).bind λx=>r.map (x::·)
def kU(x:Yg):Yj:=Yk (x.length<=k8)&&fH x
def G6(a b c:V)(H:Hp):Rs V:=(kt a).elim .b λx=>(kt b).elim .b λy=>(qV c).elim .b λi=>nj (.d<|gE x y i) H
def yq(v:V)(H:Hp):Rs V:=(lj H v).elim .b λxs=>nj (.n xs) H
def vY(x y:Yg):Yj:=y.length==1&&Yk ((o_ x (gC x y 0 x.length<|x.length+1) y.length).length<=k8)&&Yk ((oJ x y).length<=k8)&&(oJ x y).all kU
def BZ(a b:V)(H:Hp):Rs V:=(kt a).elim .b λx=>(kt b).elim .b λy=>if vY x y then nj (.h<|(oJ x y).map .f) H else .b
section
variable{P:mx}{fr:Ln}{A:cG}{env:Zk}{W W':Wd}{σ σ':St}{s s':j8}{cx:Sx}
theorem zQ{α:Type}{o:Yd α}{f:α->Rs V}{σ:St}(h:(o.elim .b f).I σ≠.b):∃a,o=Y6 a/\(f a).I σ≠.b:=by cases o with|none=>exact g9 Y7 h|some a=>exact⟨a,Y7,h⟩
theorem RI{W:Wd}{n:Y9}:∀{xs:Yb V}{cs:Lv}{u:Yb Yg},ll W n xs cs->BY xs=Y6 u->∃l:Yb<|Str×b_,cs=A_ l/\l.map (·.1)=u:=by intro I;induction I with|nil=>intro _ u h e;obtain rfl:=h.T;obtain rfl:=c0 e;exact⟨[],Y7,Y7⟩|cons x r N=>intro _ u h e;refine bp h.O λc T F O L=>?_;subst F;obtain⟨y,e1,e2⟩:=ji e;obtain⟨S,J,rfl⟩:=jl e2;obtain rfl:=qI e1;obtain⟨t,rfl,_⟩:=O.T;obtain⟨l,rfl,rfl⟩:=N L J;exact⟨(y,t)::l,Y7,Y7⟩
theorem RJ{W:Wd}{n:Y9}:∀{l:Yb<|Str×b_},(l.map (·.1)).all kU->ll W n ((l.map (·.1)).map .f) (A_ l):=by intro F;induction F with|nil=>exactλq=>.U|cons zp r u=>obtain⟨x,t⟩:=zp;intro h;rw[gH,fK,j0]at h;obtain h1:=h.1;unfold kU at h1;rw[j0,t4]at h1;exact .S (.d6 x t h1.1 h1.2)<|u h.2
theorem G7(I:lb P fr W σ.h s)(L:lm P env W σ s.heap){u:Yb Yg}{l:Yb<|Str×b_}(F:l.map (·.1)=u)(J:u.all kU)(hz:u.length<=k8){k:Y9}:kq P fr env W σ s ((nj (.h<|u.map .f) σ.h).I σ) (.ref s.heap.objs.size) {s with heap:=s.heap.push {cls:=.type "list",data:=.seq (A_ l).toArray},toks:=k}:=by subst F;refine jR (items:=(A_ l).toArray) I L (RJ J) ?_ Y7 Y7 Y7;obtain h1:(A_ l).length=l.length:=n5 ..;refine zJ5 dT<|zJ5 h1 ?_;rw[n5]at hz;exact hz
end
def Bq(F v:V)(H:Hp):Rs V:=(kt F).elim .b λsp=>((lj H v).bind BY).elim .b λu=>if(JoinOk sp u&&kU (i_ sp u))=Ye then nj (.f<|Txt.join sp u) H else .b
section
variable{P:mx}{fr:Ln}{A:cG}{env:Zk}{W W':Wd}{σ σ':St}{s s':j8}{cx:Sx}
end
theorem qx:Slot "method_descriptor" "__get__" "method_descriptor.__get__":=.of (owner:="method_descriptor") (n:="__get__") (by kernel_rfl) jg jg jg
  (by first|exact .inl<|by decide+kernel|exact .inr<|by decide+kernel)<|by kernel_rfl
section
variable{prog:lG}{w:YB}{A:cG}{E:Pv}{h:pJ}{g:Yp GenState}{d:Drawn}{t:Y9}{os:YI}{a:YF}{o:Yr}
theorem JM{c:Yj}{α:Type}{x y:s_ α}{Q:α->j8->Prop}{s:j8}{M:Zb}(hc:c=Yc)(h:Yi M A y Q E s):Yi M A (if c then x else y) Q E s:=by subst hc;exact h
theorem RK{Q:c_->j8->Prop}(u:h.get? a=Y6 o)(hc:o.cls=.type "list")(F:Q (.done<|.ret<|.ref h.objs.size) ⟨h.push<|kN a,g,d,t,os⟩):Yi (Zs prog w) A (Builtin.«method_descriptor.__get__» ⟨[.builtin "list.append",.ref a,.type "list"],[]⟩) Q E ⟨h,g,d,t,os⟩:=by unfold Builtin.«method_descriptor.__get__»;refine g7<|dX (a:=(.builtin "list.append",Y6<|.ref a,Y6<|.type "list")) (by first|rfl|kernel_rfl) ?_;refine JM jg<|g7 ?_;wp_delta;refine g7<|dX (a:=(("append":Yg),YM "list")) (by first|rfl|kernel_rfl) ?_;refine g7<|nJ ⟨_,u,hc⟩ (by kernel_rfl:isSubtype (.type "list") (.type "list")=Zg Ye) ?_;refine JM Y7<|j6 ?_;refine g7 ?_;exact gI (j6 F)<|by show(2:Y9)<=k8+2;decide
variable{xs:Yp n4}{k:Y9}
theorem RL{I:b_}{Q:c_->j8->Prop}(u:h.get? a=Y6 (Zu xs k))(J:Q (.done<|.ret<|.ref h.objs.size) ⟨h.push<|kN a,g,d,t,os⟩):Yi (Zs prog w) A (Builtin.«object.__getattribute__» ⟨[.ref a,.str "append" I],[]⟩) Q E ⟨h,g,d,t,os⟩:=by
 obtain hT:(⟨h,g,d,t,os⟩:j8).TypeIs (.ref a) "list":=⟨_,u,Y7⟩;obtain f4:=F.slot_list_append.lookup;obtain f5:=ZX;obtain f6:=qx.lookup;obtain f7:=(by kernel_rfl:typeLookup (.type "method_descriptor") "__set__"=Zg Y8);obtain f8:=(by kernel_rfl:typeLookup (.type "method_descriptor") "__delete__"=Zg Y8);repeat(any_goals(first|assumption|wp_step))
 refine nS qx.plain (iG<|by kernel_rfl)<|qx.check _ _ _ _ _ _ _ _ ZX (by kernel_rfl)<|RK u Y7 ?_;repeat(any_goals(first|assumption|wp_step))
theorem RM{Q:Pv}(u:h.get? a=Y6 (Zu xs k))(J:Q (.ref h.objs.size) ⟨h.push<|kN a,g,d,t+1,os⟩):Yi (Zs prog w) A (getAttr (.ref a) "append" Ye) Q E ⟨h,g,d,t,os⟩:=by
 obtain f2:=ZF.lookup;obtain f3:=ZF.bind<|.ref a;repeat(any_goals(first|assumption|exact(λq=>⟨_,u,Y7⟩:∀I,(⟨h,g,d,I,os⟩:j8).TypeIs (.ref a) "list") _|wp_step))
 refine nS ZF.plain F.entry_list_ga<|F.slot_list_getattribute.check _ _ _ _ _ _ _ _ ⟨_,u,Y7⟩ (F.args_list_getattribute_2 _ _)<|RL u ?_;repeat(any_goals(first|assumption|wp_step))
end
def RN:Manifest.Signature:=(iQ "list.append").getD ⟨.keywords,"","",.self,[]⟩
theorem RO:I_ "list.append"=Y6 .method:=by kernel_rfl
section
variable{prog:lG}{w:YB}{A:cG}{E:Pv}{s:j8}{M:Zb}{a b:YF}{x:n4}{xs:Yp n4}{k:Y9}
theorem RP{Q:z_->j8->Prop}(u:s.heap.get? a=Y6 (Zu xs k))(F:Q () s):Yi M A (Zo "list.append" ⟨[.ref a,x],[]⟩) Q E s:=by obtain hT:s.TypeIs (.ref a) "list":=⟨_,u,Y7⟩;unfold Zo;refine zJ5 (by kernel_rfl:iQ "list.append"=Y6 RN)<|zJ5 RO ?_;dsimp only;refine ?_;refine g7<|nJ (b:=Yc) hT (by kernel_rfl) ?_;refine ?_;refine g7<|g7<|iD u<|j6 ?_;refine ?_;exact g7<|wpAny_typeOf hT<|dX (a:=()) (by first|rfl|kernel_rfl) F
theorem RQ{Q:Pv}(J:s.heap.get? b=Y6 (kN a))(u:s.heap.get? a=Y6 (Zu xs k))(hz:xs.size+1<=k8)(I:Q .none {s with heap:=s.heap.update a<|Obj.mapSeq λl=>l.push x}):Yi (Zs prog w) A (Zm (.ref b) [x] []) Q E s:=by refine mI<|rE<|g7<|iD J ?_;show Yi _ _ (if(YM "builtin_function_or_method"==YM "method"||Value.type "builtin_function_or_method"==YM "builtin_function_or_method"||Value.type "builtin_function_or_method"==YM "method-wrapper")=Ye then _ else _) _ _ _;refine ?_;show Yi _ _ (if YM "builtin_function_or_method"!=YM "method"then _ else _) _ _ _;refine ?_;refine g7<|RP u<|g7<|j6<|j6 ?_;exact⟨oP _ jg,rF oV<|PySem.list_append _ xs k x (n6 hz) prog w A (wants Q E) s ⟨u,I⟩⟩
end
def xo(v:V)(H:Hp):Rs V:=(xk H v).elim .b λq=>nj (.o q.1) H
section
variable{P:mx}{fr:Ln}{A:cG}{env:Zk}{W W':Wd}{σ σ':St}{s s':j8}{cx:Sx}
theorem RR(I:lb P fr W σ.h s)(L:lm P env W σ s.heap)(hL:env.locals∈fr){k:Y9}{x:V}{c d:n4}(hv:VR W σ.n (.o k) c)(S:VR W σ.n x d)(N:(xD (.g k) x σ.h).I σ≠.b):Yi P.M A (Zm c [d] []) (kq P fr env W σ s<|(xD (.g k) x σ.h).I σ) nu s:=by
 refine bC λF=>?_;obtain⟨b,rfl,hk,u⟩:=hv.Z;obtain⟨_,xs,e0,J,hz⟩:=JL<|λq=>uZ N q;injection e0 with e0;subst e0;rw[uH J hz]at F;obtain⟨_,T,hg,O⟩:=I.o _ _ J;obtain⟨items,e,rfl,r,z⟩:=O.I;obtain hlen:=r.N;rw[n8]at hlen;refine F<|RQ (I.g _ _ u).1 hg (by simp[hz,hlen])<|⟨_,σ.N k<|.a<|xs++[x],W,Y7,kc.ju I L hk hL (.a<|xs++[x]) (.J (e:=_) ?_ ?_) (λb o u e=>((mA ..).2 b u).trans e) (IsL.update (n:=e) hg<|λxs=>xs.push d) Y7 Y7,.none⟩;.rw[nR];exact r.X<|.S S .U
 .simp[hz,hlen]
theorem RS(I:lb P fr W σ.h s)(L:lm P env W σ s.heap){v:V}{c:n4}(hv:VR W σ.n v c)(F:(xo v σ.h).I σ≠.b):Yi P.M A (getAttr c "append" Ye) (kq P fr env W σ s<|(xo v σ.h).I σ) nu s:=by refine bC λu=>?_;obtain⟨⟨k,xs⟩,e⟩:=qP<|λq=>uZ F q;obtain⟨rfl,N⟩:=jB e;obtain⟨rfl,hk⟩:=hv.cB;rw[(by show(xk σ.h<|.g k).elim Rs.b _=_;rw[e];rfl:xo (.g k) σ.h=nj (.o k) σ.h)]at u;obtain⟨_,O,hg,J⟩:=I.o _ _ N;obtain⟨items,e,rfl,r,z⟩:=J.I;exact u<|RM hg<|⟨_,_,_,Y7,kc.d6 I L (kN<|W.c k) Y7 Y7 Y7 Y7,.jy hk<|by refine bj Y7 ?_;rfl⟩
end
end Mine.Lake
namespace Mine.Lake
open PySem PySem.W PyProof.Rows Mine.Lake.Re
def AG:Yb V->Yd (Yb Yh)|[]=>Y6 []|[a]=>(qV a).map λi=>[i]|[a,b]=>(qV a).bind λi=>(qV b).map λl=>[i,l]|_=>Y8
def uT(is:Yb Yh):Yj:=Yk (-2^63<=zB is)&&Yk (zB is<2^63)&&Yk (-2^63<=zC is)&&Yk (zC is<2^63)
def ul:Yd (Y9×Y9)->V|some (p,e)=>.t p e|none=>.none
def vF(code:Yp Y9)(x:Yg)(is:Yb Yh)(H:Hp):Rs V:=if uT is then(zG code x.cps (Ze (zB is).toNat x.cps.size)<|min (zC is).toNat x.cps.size).elim .b λr=>nj (ul r) H else .b
def Br(code:Yp Y9)(args:Yb V)(H:Hp):Rs V:=match args with|a::r=>(kt a).elim .b λx=>(AG r).elim .b λis=>vF code x is H|_=>.b
def G8(v:V)(H:Hp):Rs V:=(Bd v).elim .b λx=>nj (.d x.2) H
def vP(x y:Yg)(lo hi:Y9):Yh:=match gC x y lo hi 1 with|k::_=>(k:Yh)|[]=>-1
def Bs(f:Yg->Yg->Y9->Y9->Yh)(a b c d:V)(H:Hp):Rs V:=(kt a).elim .b λx=>(kt b).elim .b λy=>(qV c).elim .b λi=>(qV d).elim .b λj=>nj (.d<|f x y (mc x.length i)<|min (mc x.length j) x.length) H
section
variable{P:mx}{fr:Ln}{A:cG}{env:Zk}{W W':Wd}{σ σ':St}{s s':j8}
theorem C0{W:Wd}{n:Y9}{v:V}{i:Yh}{c:n4}(h:VR W n v c)(e:qV v=Y6 i):∃t,c=.int i t:=by rw[qJ e]at h;exact h.U
theorem JN{W:Wd}{n:Y9}{args:Yb V}{cs:Lv}{is:Yb Yh}(h:ll W n args cs)(e:AG args=Y6 is):nn is cs:=by cases args with|nil=>obtain rfl:=h.T;obtain rfl:=c0 e;exact .a|cons x r=>obtain⟨_,_,rfl,a,h⟩:=h.O;cases r with|nil=>obtain rfl:=h.T;obtain⟨i,h1,rfl⟩:=jl<|e;obtain⟨t,rfl⟩:=C0 a h1;exact .b _ _|cons y r=>obtain⟨_,_,rfl,b,h⟩:=h.O;cases r with|nil=>obtain rfl:=h.T;obtain⟨i,h1,h2⟩:=ji<|e;obtain⟨l,h3,rfl⟩:=jl h2;obtain⟨t,rfl⟩:=C0 a h1;obtain⟨u,rfl⟩:=C0 b h3;exact .c _ _ _ _|cons _ _=>exact lz e
theorem Db(I:lb P fr W σ.h s){p e:Y9}{c:n4}(h:VR W σ.n (.t p e) c):∃a o,c=.ref a/\pw s.heap a p e/\s.heap.get? a=Y6 o/\o.cls=.type "re.Match"/\o.dict=Y8:=by refine bC λu=>?_;obtain⟨_,_,_,_,_,_,_,_,_,rfl,h1,h2,h3,h4,h5,F,J,L⟩:=h.Z;refine u ?_;exact⟨_,_,Y7,⟨_,_,_,_,_,_,_,_,(I.g _ _ h1).1,h2,h3,h4,(I.g _ _ h5).1,F,J⟩,(I.g _ _ h1).1,h2,L⟩
theorem ng{r:Rs V}(h:r.I σ≠.b):r≠.b:=λq=>h<|by erw[q];rfl
theorem JO(I:lb P fr W σ.h s)(L:lm P env W σ s.heap){x:Yg}{t:b_}{pt:YF}{p e lo hi:Y9}:kq P fr env W σ s ((nj (.t p e) σ.h).I σ) (.ref<|s.heap.objs.size+1) {s with heap:=(s.heap.push<|xL p e).push<|xI x t pt s.heap.objs.size lo hi}:=by obtain aA:=kc.d6 (s':={s with heap:=s.heap.push<|xL p e}) I L (xL p e) Y7 Y7 Y7 Y7;obtain aB:=kc.d6 (s':={s with heap:=(s.heap.push<|xL p e).push<|xI x t pt s.heap.objs.size lo hi}) aA.f aA.l (xI x t pt s.heap.objs.size lo hi) Y7 Y7 Y7 Y7;refine⟨_,_,_,Y7,aA.cr aB,?_⟩;simp only[<-(lL ..:(s.heap.push<|xL p e).objs.size=s.heap.objs.size+1)];refine .mt (ot:=xL p e) (bj Y7 Y7) Y7 Y7 Y7 (aB.w.d.fz _ _<|bj Y7 Y7) Y7 Y7 Y7
theorem RT{code:Yp Y9}{b pt:YF}(U:P.B.get? b=Y6 (ph "re.Pattern.match" pt))(hp:ox P.B pt code)(I:lb P fr W σ.h s)(L:lm P env W σ s.heap){args:Yb V}{cargs:Lv}(S:ll W σ.n args cargs)(F:(Br code args σ.h).I σ≠.b):Yi P.M A (Zm (.ref b) cargs []) (kq P fr env W σ s<|(Br code args σ.h).I σ) nu s:=by obtain hne':=ng F;cases args with|nil=>exact g9 Y7 F|cons v r=>
 refine bp S.O λc cs O h1 h2=>?_;subst O;refine bC λu=>?_;obtain⟨x,ex⟩:=zM<|hne';clear S;obtain rfl:=qI ex.1;obtain⟨is,hi⟩:=zM<|hne';refine u ?_;have Y:Br code (.f x::r) σ.h=vF code x is σ.h:=by show(AG r).elim Rs.b _=_;rw[hi.1];rfl
 rw[Y]at F hne'⊢;refine bC λu=>?_;obtain⟨t,rfl,Z,hs⟩:=h1.T;refine u ?_;obtain hia:=JN h2 hi.1;unfold vF at F hne'⊢;by_cases J:uT is=Ye
 .rw[d9 J]at hne'⊢;refine bC λu=>?_;obtain⟨q,T⟩:=zM hne';refine u ?_;rw[T.1];unfold uT at J;rw[j0,j0,j0]at J;refine bC λu=>?_;obtain⟨⟨⟨r1,r2⟩,r3⟩,X⟩:=J;obtain⟨op,fs,ct,p1,p2,p3,p4,p5,p6,oc,items,e,p7,p8,p9⟩:=hp.a;refine u<|Pi (I.f _ _ U) ⟨op,fs,ct,I.f _ _ p1,p2,p3,p4,p5,p6,oc,items,e,I.f _ _ p7,p8,p9⟩ hia (k9 r1) (k9 r2) (k9 r3) (k9 X) T.1 (λp e N=>?_) λN=>?_;.subst N;exact JO I L
  .subst N;exact⟨_,_,W,Y7,kc.cB I L,.none⟩
 .exact g9 (d8 J) hne'
theorem AH(I:lb P fr W σ.h s)(L:lm P env W σ s.heap){v:V}{c:n4}(hv:VR W σ.n v c)(F:(G8 v σ.h).I σ≠.b):Yi P.M A (Zm (.builtin "re.Match.end") [c] []) (kq P fr env W σ s<|(G8 v σ.h).I σ) nu s:=by refine bn (qP<|ng F) λx J=>?_;obtain rfl:=wZ J;refine bp (Db I hv) λa o u X q=>?_;subst u;exact Pk X<|kO I L Y7<|.cr _ _
theorem JP{f:Yg->Yg->Y9->Y9->Yh}{a b c d:V}{H:Hp}(u:Bs f a b c d H≠.b):∃x y i j,a=.f x/\b=.f y/\c=.d i/\d=.d j/\Bs f a b c d H=nj (.d<|f x y (mc x.length i)<|min (mc x.length j) x.length) H:=by refine am (zM<|u) λx e1 q=>?_;obtain rfl:=qI e1;refine am (zM<|show(kt b).elim Rs.b _≠.b from u) λy e2 q=>?_;obtain rfl:=qI e2;refine am (zM<|show(qV c).elim Rs.b _≠.b from u) λi F q=>?_;obtain rfl:=qJ F;refine am (zM<|show(qV d).elim Rs.b _≠.b from u) λj I q=>?_;clear u;obtain rfl:=qJ I;exact⟨x,y,i,j,Y7,Y7,Y7,Y7,Y7⟩
theorem ll.ds{W:Wd}{n:Y9}{x y z u:V}{cs:Lv}(h:ll W n [x,y,z,u] cs):∃c d e f,cs=[c,d,e,f]/\VR W n x c/\VR W n y d/\VR W n z e/\VR W n u f:=by refine bp h.O λc L F a b=>?_;subst F;refine bp b.O λd es F b' c'=>?_;subst F;refine bp c'.Z λe f F J I=>?_;subst F;exact⟨c,d,e,f,Y7,a,b',J,I⟩
end
def JQ(a b:V)(H:Hp):Rs V:=(qV a).elim .b λx=>(qV b).elim .b λy=>nj (.d<|if y>x then y else x) H
def G9(x:Yg)(is:Yb Yh)(H:Hp):Rs V:=if-2^63<=zB is/\zB is<2^63/\-2^63<=zC is/\zC is<2^63 then match xJ x.cps me (Ze (zB is).toNat x.cps.size) (Ze (zC is).toNat x.cps.size)with|some (p,e)=>nj (.t p e) H|none=>nj .none H else .b
def rf(args:Yb V)(H:Hp):Rs V:=match args with|a::r=>(kt a).elim .b λx=>(AG r).elim .b λis=>G9 x is H|_=>.b
def JR(v:V)(H:Hp):Rs V:=(Bd v).elim .b λx=>nj (.d x.1) H
def JS(v:V)(H:Hp):Rs V:=(Bd v).elim .b λx=>nj (.n [.d x.1,.d x.2]) H
section
variable{P:mx}{fr:Ln}{A:cG}{env:Zk}{W W':Wd}{σ σ':St}{s s':j8}
end
end Mine.Lake
namespace Mine.Lake
open PySem PySem.W PyProof.Rows
def Dc(a b:V)(H:Hp):Rs V:=(kt a).elim .b λx=>(kt b).elim .b λy=>nj (.d<|sY x y) H
def Ga(a b:V)(H:Hp):Rs V:=(kt a).elim .b λx=>(kt b).elim .b λy=>if kU (gO x y)then nj (.f<|gO x y) H else .b
def vh(a:V)(H:Hp):Rs V:=(kt a).elim .b λx=>nj (.j<|Txt.isalnum x) H
section
variable{P:mx}{fr:Ln}{A:cG}{env:Zk}{W W':Wd}{σ σ':St}{s s':j8}{cx:Sx}
end
end Mine.Lake
namespace Mine.Lake
open PySem PySem.W PyProof.Rows Mine.Lake.Re
def ql(n u:Y9)(l:Ln):Ln:=lr (λq=>[]) (λc q r u=>if c=9 then YG (n-u%n) 32++r (u+(n-u%n))else c::r (if c=10\/c=13 then 0 else u+1)) l u
def mh(n:Y9)(x:Yg):Yg:=⟨(ql n 0 x.cps.toList).toArray⟩
def pa(x:Yg)(i:Yh):Yj:=Yk (0<i)&&Yk (i<2^31)&&Yk ((mh i.toNat x).length<=k8)&&fH (mh i.toNat x)
def xq(a b:V)(H:Hp):Rs V:=(kt a).elim .b λx=>(qV b).elim .b λi=>if pa x i then nj (.f<|mh i.toNat x) H else .b
theorem RU{n:Y9}:∀{l:Ln}{u:Y9},9∉l->ql n u l=l:=by intro I;induction I with|nil=>exact@λz z=>Y7|cons c l F=>intro u h;show(if c=9 then _ else c::_)=_;exact(d8 (λq=>h<|q▸.head _:c≠9)).trans<|i6 (List.cons c)<|F λq=>h<|.tail _ q
def JT(n:Y9)(s:j8)(all rest:Ln)(b:Yp Y9×Y9)(s':j8):Prop:=b.1.toList++ql n b.2 rest=ql n 0 all/\s'=s
section
variable{prog:lG}{w:YB}{A:cG}{E:Pv}{s:j8}
theorem RV{x:Yg}{t u:b_}{i:Yh}(h:pa x i){Q:c_->j8->Prop}(J:∀t' k,Q (.done<|.ret<|.str (mh i.toNat x) t') {s with toks:=k}):Yi (Zs prog w) A (Builtin.«str.expandtabs» ⟨[.str x t,.int i u],[]⟩) Q E s:=by
 unfold pa at h;rw[j0,j0,j0]at h;obtain⟨⟨⟨h1,h2⟩,h3⟩,h4⟩:=h;have h1:=k9 h1;obtain h2:=k9 h2;have h3:=k9 h3;unfold Builtin.«str.expandtabs»;refine g7<|dX Y7<|g7<|dX (a:=[Y6<|.int i u]) Y7 ?_;dsimp only;refine g7<|dX (a:=i) Y7 ?_;rw[d8<|by simp;lia];by_cases hc:x.cps.contains 9=Ye
 .rw[d8<|by simpa using hc];obtain hlen:(ql i.toNat 0 x.cps.toList).length<=k8:=by
   have:(mh i.toNat x).length=(ql i.toNat 0 x.cps.toList).length:=by show(ql i.toNat 0 x.cps.toList).toArray.size=_;rw[dT]
   exact h3
  refine g7<|m8 (Q:=λb s'=>JT i.toNat s x.cps.toList [] b s') ?_ ?_ λy y z=>z
  .refine mO _ (JT i.toNat s x.cps.toList) _ ?_ (λb s' h=>h) x.cps _ ⟨Y7,Y7⟩;rintro c rest⟨out,F⟩s'⟨e1,rfl⟩;dsimp only at e1|-;by_cases I:c=9;.have e2:ql i.toNat F (c::rest)=YG (i.toNat-F%i.toNat) 32++ql i.toNat (F+(i.toNat-F%i.toNat)) rest:=d9 I;rw[e2]at e1;rw[d9<|by simpa using I,d9 h1];rw[d8<|by unfold mB;simpa using by rw[<-e1,j9,j9,iF,n8]at hlen;lia];refine j6 ⟨?_,Y7⟩;rw[lB,v5,<-e1];rfl
   .have e2:ql i.toNat F (c::rest)=c::ql i.toNat (if c=10\/c=13 then 0 else F+1) rest:=d8 I;rw[e2]at e1;rw[d8<|by simpa using I];refine j6 ⟨?_,Y7⟩;rw[(by
     by_cases q:c=10\/c=13;.rw[d9 q,d9<|by simpa using q]
     .rw[d8 q,d8<|by simpa using q]:(if(c==10||c==13)=Ye then 0 else F+1)=if c=10\/c=13 then 0 else F+1),nR,v5];exact e1
  .rintro⟨out,F⟩s'⟨e1,rfl⟩;rw[i6 Str.mk<|Array.toList_inj.mp<|(by rw[<-e1];exact(eY _).symm:out.toList=ql i.toNat 0 x.cps.toList)];exact g7<|wpAny_mkStr (j6<|J _ _) h3
 .rw[d9<|by simpa using hc];refine g7<|sO<|g7<|dX (a:=.str x t) Y7<|j6 ?_;have:=J t s.toks;rw[(by unfold mh;rw[RU<|by rw[Array.mem_toList_iff];simpa using hc]:mh i.toNat x=x)]at this;exact this
theorem RW{x:Yg}{t u:b_}{i:Yh}(h:pa x i){Q:Pv}(I:∀t' k,Q (.str (mh i.toNat x) t') {s with toks:=k}):Yi (Zs prog w) A (Zm (.builtin "str.expandtabs") [.str x t,.int i u]) Q E s:=iH oE (eS s x t) (iG<|by kernel_rfl) (RV h λt' k=>⟨_,Y7,I t' k⟩)<|PySem.F.args_str_expandtabs_2 _ _
end
namespace Re
theorem JU:Slot "re.Pattern" "match" "re.Pattern.match":=.of (owner:="re.Pattern") (n:="match") (by kernel_rfl) jg jg jg
  (by first|exact .inl<|by decide+kernel|exact .inr<|by decide+kernel)<|by kernel_rfl
end Re
def rt:Yp Y9:=#[14,4,0,1,4294967295,24,9,0,4294967295,13,4,8,12,0,1,16,92,1]
def AI(a:YF):Yd<|Array Y9:=if a=73 then Y6 rt else Y8
def wY(code:Yp Y9)(v:V)(H:Hp):Rs V:=(kt v).elim .b λx=>vF code x [] H
section
variable{P:mx}{fr:Ln}{A:cG}{env:Zk}{W W':Wd}{σ σ':St}{s s':j8}{cx:Sx}
end
structure tS where
 K:L_
 C:YF
 b:Yb<|Str×YF
 a:Yb Yg
 h:Yg->Yd V
 f:YF
 g:YF
 d:Y9->Y9
 e:YF->Yd (Yp Y9)c:YF
def Gb:V->Yj|.m w=>handedIn w|_=>Ye
def Gc:V->Yd Y9|.g k=>Y6 k|_=>Y8
theorem JV{v:V}{x:Y9}:Gc v=Y6 x->v=.g x:=by cases v<;>intro h<;>first|exact lz h|exact i6 _<|c0 h
def wD:V->Yd YF|.m<|.ref d=>Y6 d|_=>Y8
theorem wC{v:V}{x:YF}:wD v=Y6 x->v=.m (.ref x):=by cases v with
 |m c=>cases c<;>intro h<;>first|exact lz h|exact i6 (λd=>V.m<|.ref d)<|c0 h
 |_=>exactλh=>lz h
def JW:O->Yd (YF×Y9)|.c C d=>Y6 (C,d)|_=>Y8
def JX:O->Yd (Yb<|Str×V)|.dict fs=>Y6 fs|_=>Y8
def jS(G:tS)(o:V)(H:Hp):Yd<|Nat×Y9×Yb (Yg×V):=(Gc o).bind λk=>(H.o k).bind λa=>(JW a).bind λx=>(H.o x.2).bind λb=>(JX b).bind λfs=>if x.1=G.C then Y6 (k,x.2,fs)else Y8
def yZ(G:tS)(o:V)(f:Yg)(H:Hp):Ov:=(jS G o H).elim (if f=("append":Yg)then(xk H o).elim .a λq=>.b<|.o q.1else .a) λq=>if G.a.contains f=Ye then(q.2.2.lookup f).elim .a λv=>if Gb v then .b v else .a else .a
def Ge(G:tS)(o:V)(f:Yg)(v:V)(H:Hp):Yd Hp:=(jS G o H).bind λq=>if G.a.contains f=Ye/\q.2.2.length<=100 then Y6 {H with o:=λj=>if j=q.2.1 then Y6<|.dict<|kn f v q.2.2else H.o j}else Y8
def rg(m:Yg):Yd YA:=if m=("find":Yg)then Y6 "str.find"else if m=("rfind":Yg)then Y6 "str.rfind"else if m=("split":Yg)then Y6 "str.split"else if m=("join":Yg)then Y6 "str.join"else if m=("expandtabs":Yg)then Y6 "str.expandtabs"else if m=("lstrip":Yg)then Y6 "str.lstrip"else if m=("isalnum":Yg)then Y6 "str.isalnum"else if m=("count":Yg)then Y6 "str.count"else Y8
def Gf(m:Yg):Yd YA:=if m=("append":Yg)then Y6 "list.append"else Y8
def Dd(m:Yg):Yd YA:=if m=("start":Yg)then Y6 "re.Match.start"else if m=("span":Yg)then Y6 "re.Match.span"else if m=("end":Yg)then Y6 "re.Match.end"else Y8
def De(G:tS)(k:Y9)(m:Yg)(H:Hp):Yd<|V×Yb V:=(jS G (.g k) H).elim ((xk H<|.g k).bind λz=>(Gf m).map λi=>(.m<|.builtin i,[.g k])) λq=>if q.2.2.lookup m=Y8 then(G.b.lookup m).map λg=>(.m<|.ref g,[.g k])else Y8
def Gg(G:tS)(m:Yg)(a:YF):Yd<|V×Yb V:=if m=("match":Yg)then(AI a).map λq=>(.m<|.builtin "re.Pattern.match",[.m<|.ref a])else Y8
def xr(G:tS)(o:V)(m:Yg)(H:Hp):Yd<|V×Yb V:=(kt o).elim ((Bd o).elim ((wD o).elim ((Gc o).bind λk=>De G k m H)<|Gg G m) λx=>(Dd m).map λi=>(.m<|.builtin i,[.t x.1 x.2])) λx=>(rg m).map λi=>(.m<|.builtin i,[.f x])
def wP(args:Yb V)(f:V->Rs V):Rs V:=match args with|[a]=>f a|_=>.b
def yL(args:Yb V)(f:V->V->Rs V):Rs V:=match args with|[a,b]=>f a b|_=>.b
def JY(args:Yb V)(f:V->V->V->Rs V):Rs V:=match args with|[a,b,c]=>f a b c|_=>.b
def Gh(args:Yb V)(f:V->V->V->V->Rs V):Rs V:=match args with|[a,b,c,d]=>f a b c d|_=>.b
def nz(i:YA)(args:Yb V)(H:Hp):Rs V:=if i="len"then wP args λa=>Bn a H else if i="list.append"then yL args λa b=>xD a b H else if i="str.find"then if args.length=4 then Gh args λa b c d=>Bs vP a b c d H else JY args λa b c=>G6 a b c H else if i="str.rfind"then Gh args λa b c d=>Bs kA a b c d H else if i="str.split"then yL args λa b=>BZ a b H else if i="str.join"then yL args λa b=>Bq a b H else if i="str.expandtabs"then yL args λa b=>xq a b H else if i="max"then yL args λa b=>JQ a b H else if i="re.Match.start"then wP args λa=>JR a H else if i="re.Match.span"then wP args λa=>JS a H else if i="str.lstrip"then yL args λa b=>Ga a b H else if i="str.isalnum"then wP args λa=>vh a H else if i="str.count"then yL args λa b=>Dc a b H else if i="re.Match.end"then wP args λa=>G8 a H else if i="re.Pattern.match"then yL args λp v=>((wD p).bind AI).elim .b λcode=>wY code v H else .b
def wq(i:YA)(args:Yb V)(H:Hp):Rs V:=if i="range"then Bo args H else if i="tuple"then wP args λa=>yq a H else .b
noncomputable abbrev AJ:=YF->Yb V->Hp->Rs V
noncomputable abbrev Bt:=Yb Yg->X->Yb (Yg×Y9)->Yb V->Hp->Rs V
def C3(G:tS)(fns:AJ)(lam:Bt)(f:V)(args:Yb V)(H:Hp):Rs V:=match f with|.m<|.builtin i=>nz i args H|.m<|.type i=>wq i args H|.m<|.ref a=>if a=G.c then rf args H else(G.e a).elim (fns a args H) λcode=>Br code args H|.r ps x cs=>lam ps x cs args H|.o k=>wP args λx=>xD (.g k) x H|_=>.b
def JZ(G:tS)(v:V):Yd<|Nat->Y9:=(wD v).bind λd=>if d=G.f then Y6 G.d else Y8
def mk(G:tS)(lv:Y9)(fns:AJ)(lam:Bt):Sx:={j:=lv,p:=G.h,i:=C3 G fns lam,k:=xr G,m:=yZ G,q:=Ge G,r:=JZ G}
structure tT(P:mx)(G:tS):Prop where
 cls:xn P G.K G.C
 j:sw G.K G.g G.f G.d
 i:D6 P
 h:∃pt,P.B.get? G.c=Y6 (ph "re.Pattern.search" pt)/\ox P.B pt tP
 l:∀b code,G.e b=Y6 code->∃pt,P.B.get? b=Y6 (ph "re.Pattern.match" pt)/\ox P.B pt code
 e:∀a code,AI a=Y6 code->ox P.B a code/\∃o,P.B.get? a=Y6 o/\o.cls=.type "re.Pattern"/\o.dict=Y8
 m:∀m g,G.b.lookup m=Y6 g->n_ G.K (.ref G.C) m=Y6 (Y6<|.ref g)/\typeIn G.K (.ref g)=Y6 (.type "function")d:∀f,G.a.contains f=Ye->n_ G.K (.ref G.C) f=Y6 Y8
 k:∀x v,G.h x=Y6 v->∃c mg mb,P.B.Ns dY mg/\P.B.Ns fL mb/\(mg x=Y6 c\/mg x=Y8/\mb x=Y6 c)/\∀W n,VR W n v c
def K1(P:mx)(lv:Y9)(fns:AJ):Prop:=∀fr A env,Fm P lv fr A env->∀W σ s,lb P fr W σ.h s->lm P env W σ s.heap->∀a args cargs,ll W σ.n args cargs->(fns a args σ.h).I σ≠.b->zl P.M A (.ref a) s/\Yi P.M A (Zm (.ref a) cargs []) (kq P fr env W σ s<|(fns a args σ.h).I σ) nu s
def Gi(P:mx)(lv:Y9)(lam:Bt):Prop:=∀fr A env,Fm P lv fr A env->∀W σ s,lb P fr W σ.h s->lm P env W σ s.heap->∀ps x cs u args cargs,VR W σ.n (.r ps x cs) u->ll W σ.n args cargs->(lam ps x cs args σ.h).I σ≠.b->zl P.M A u s/\Yi P.M A (Zm u cargs []) (kq P fr env W σ s<|(lam ps x cs args σ.h).I σ) nu s
section
variable{P:mx}{fr:Ln}{A:cG}{env:Zk}{W W':Wd}{σ σ':St}{s s':j8}{G:tS}{lv:Y9}{fns:AJ}{lam:Bt}
theorem wK{o:V}{H:Hp}{k d:Y9}{fs:Yb<|Str×V}(h:jS G o H=Y6 (k,d,fs)):o=.g k/\H.o k=Y6 (.c G.C d)/\H.o d=Y6 (.dict fs):=by
 refine jh h λJ e1 h=>am (ji h) λa e2 h=>am (ji h) λx u h=>?_;refine jh h λb F h=>am (ji h) λfs' I h=>?_;by_cases q:x.1=G.C;.cases(d9 q).symm.trans h;exact⟨JV e1,e2.trans<|i6 Y6<|((by cases a<;>intro h<;>first|exact lz h|exact c0 h▸Y7:JW a=Y6 x->a=.c x.1 x.2) u).trans<|q▸Y7,F.trans<|i6 Y6<|(by cases b<;>intro h<;>first|exact lz h|exact i6 _<|c0 h:JX b=Y6 fs->b=.dict fs) I⟩
 .exact lz<|(d8 q).symm.trans h
theorem ll.jt{W:Wd}{n:Y9}{x y z:V}{cs:Lv}(h:ll W n [x,y,z] cs):∃c d e,cs=[c,d,e]/\VR W n x c/\VR W n y d/\VR W n z e:=by refine bp h.O λc F u a b=>?_;subst u;refine bp b.Z λd e u b' c'=>?_;subst u;exact⟨c,d,e,Y7,a,b',c'⟩
theorem yW{α:Type}{c:Prop}[Zf c]{a b:α}{G:α->Prop}(h1:c->G a)(h2:¬c->G b):G<|if c then a else b:=by
 by_cases h:c;.rw[d9 h];exact h1 h
 .rw[d8 h];exact h2 h
theorem K2{args:Yb V}{f:V->Rs V}{G:Rs V->Prop}(u:G .b)(h:∀a,args=[a]->G (f a)):G<|wP args f:=by
 rcases args with _|⟨a,_|⟨b,r⟩⟩;.exact u
 .exact h _ Y7
 .exact u
theorem RX{args:Yb V}{f:V->V->Rs V}{G:Rs V->Prop}(u:G .b)(h:∀a b,args=[a,b]->G (f a b)):G<|yL args f:=by
 rcases args with _|⟨a,_|⟨b,_|⟨c,r⟩⟩⟩;.exact u
 .exact u
 .exact h _ _ Y7
 .exact u
theorem RY{args:Yb V}{f:V->V->V->Rs V}{G:Rs V->Prop}(u:G .b)(h:∀a b c,args=[a,b,c]->G (f a b c)):G<|JY args f:=by
 rcases args with _|⟨a,_|⟨b,_|⟨c,_|⟨d,r⟩⟩⟩⟩;.exact u
 .exact u
 .exact u
 .exact h _ _ _ Y7
 .exact u
theorem K3{args:Yb V}{f:V->V->V->V->Rs V}{G:Rs V->Prop}(u:G .b)(h:∀a b c d,args=[a,b,c,d]->G (f a b c d)):G<|Gh args f:=by
 rcases args with _|⟨a,_|⟨b,_|⟨c,_|⟨d,_|⟨e,r⟩⟩⟩⟩⟩;.exact u
 .exact u
 .exact u
 .exact u
 .exact h _ _ _ _ Y7
 .exact u
def BG(P:mx)(fr:Ln)(A:cG)(env:Zk)(W:Wd)(σ:St)(s:j8)(f:n4)(cargs:Lv)(r:Rs V):Prop:=r.I σ≠.b->Yi P.M A (Zm f cargs []) (kq P fr env W σ s<|r.I σ) nu s
def MG(M:Zb)(A:cG)(s:j8)(v:n4)(m:Yg)(R:n4×Lv->j8->Prop)(E:Pv)(u:s_ Yj)(i:YA)(o:Yd YA):Prop:=o=Y6 i->Yi M A (ZP v m u) R E s
def C1(P:mx)(fr:Ln)(A:cG)(env:Zk)(W:Wd)(σ:St)(s:j8)(f:n4)(F:V->Hp->Rs V):Prop:=∀a c,VR W σ.n a c->BG P fr A env W σ s f [c] (F a σ.h)
def C2(P:mx)(fr:Ln)(A:cG)(env:Zk)(W:Wd)(σ:St)(s:j8)(f:n4)(F:V->V->Hp->Rs V):Prop:=∀a b c d,VR W σ.n a c->VR W σ.n b d->BG P fr A env W σ s f [c,d] (F a b σ.h)
theorem C1.L{f:n4}{F:V->Hp->Rs V}{args:Yb V}{cargs:Lv}(h:C1 P fr A env W σ s f F)(J:ll W σ.n args cargs):BG P fr A env W σ s f cargs<|wP args λa=>F a σ.h:=by refine K2 (λI=>g9 Y7 I) λa e=>?_;subst e;refine am J.cB λq u h1=>?_;subst u;exact h _ _ h1
theorem C2.L{f:n4}{F:V->V->Hp->Rs V}{args:Yb V}{cargs:Lv}(h:C2 P fr A env W σ s f F)(J:ll W σ.n args cargs):BG P fr A env W σ s f cargs<|yL args λa b=>F a b σ.h:=by refine RX (λI=>g9 Y7 I) λa b e=>?_;subst e;refine bp J.Z λq q u h1 h2=>?_;subst u;exact h _ _ _ _ h1 h2
theorem RZ(I:lb P fr W σ.h s)(L:lm P env W σ s.heap):C1 P fr A env W σ s (.builtin "len") Bn:=by intro a c h1 N;cases hs:kt a with|some x=>obtain rfl:=qI hs;refine bo h1.T λt u J z=>?_;subst u;exact len_str (by have:=(by decide:(k8:Yh)<2^63);lia-abstractProof)<|kO I L Y7<|.cr _ _|none=>refine bn (qP<|λq=>uZ N<|by unfold Bn;erw[hs];exact q) λxs F=>cm (xK I h1 F) λS items u J O hz=>?_;subst u;refine Calls.call_len_list J (by have:=(by decide:(k8:Yh)<2^63);lia-abstractProof)<|kO I L (by unfold Bn;refine zJ5 hs<|zJ5 F ?_;rfl) ?_;refine pd O.N<|?_;exact .cr _ _
theorem Sa(I:lb P fr W σ.h s)(L:lm P env W σ s.heap){a b c d:V}{cargs:Lv}(S:ll W σ.n [a,b,c,d] cargs):BG P fr A env W σ s (.builtin "str.find") cargs<|Bs vP a b c d σ.h:=by intro J;refine df S.ds λU X Y cd u h1 h2 h3 h4=>?_;subst u;refine df (JP<|ng J) λx y i j u T O N e=>?_;subst u;subst T;subst O;subst N;refine ?_;clear S J;obtain⟨_,rfl,_⟩:=h1.T;obtain⟨_,rfl,_⟩:=h2.T;obtain⟨_,rfl⟩:=h3.U;obtain⟨_,rfl⟩:=h4.U;exact call_gives rQ (eS s x _) PySem.F.entry_str_find (PySem.F.args_str_find_4 _ _ _ _) (by show Gives (match gC x y (mc x.length i) (Ze (mc x.length j) x.length) 1 with|k::_=>retInt k|[]=>do rule "str.find.not-found";retInt<|-1) _;unfold vP;cases gC x y (mc x.length i) (Ze (mc x.length j) x.length) 1 with|nil=>exact .rule<|.of_eq Y7|cons k _=>exact .of_eq Y7:Gives (Builtin.«str.find» ⟨[.str x _,.str y _,.int i _,.int j _],[]⟩)<|.int<|vP x y (mc x.length i)<|min (mc x.length j) x.length)<|kO I L Y7<|.cr _ _
theorem Sb(I:lb P fr W σ.h s)(L:lm P env W σ s.heap){a b c:V}{cargs:Lv}(N:ll W σ.n [a,b,c] cargs):BG P fr A env W σ s (.builtin "str.find") cargs<|G6 a b c σ.h:=by intro u;refine cj N.jt λq q q F h1 h2 h3=>?_;subst F;unfold G6 at u⊢;refine am (zQ u) λx e1 u=>?_;refine ?_;refine am (zQ u) λy e2 u=>?_;refine ?_;refine am (zQ u) λj J u=>?_;refine ?_;obtain rfl:=qI e1;clear u;obtain rfl:=qI e2;clear u;obtain rfl:=qJ J;refine am h1.T λq F q=>?_;subst F;refine am h2.T λq F q=>?_;subst F;refine bn h3.U λq F=>?_;subst F;exact SC.find3<|kO I L Y7<|.cr ..
theorem Sd(I:lb P fr W σ.h s)(L:lm P env W σ s.heap){a b c d:V}{cargs:Lv}(O:ll W σ.n [a,b,c,d] cargs):BG P fr A env W σ s (.builtin "str.rfind") cargs<|Bs kA a b c d σ.h:=by intro F;refine df O.ds λT U X cd u h1 h2 h3 h4=>?_;subst u;refine df (JP<|ng F) λx y i j u S N J e=>?_;subst u;subst S;subst N;subst J;refine ?_;clear O F;obtain⟨_,rfl,_⟩:=h1.T;obtain⟨_,rfl,_⟩:=h2.T;obtain⟨_,rfl⟩:=h3.U;obtain⟨_,rfl⟩:=h4.U;exact Pl<|kO I L Y7<|.cr _ _
theorem Se(I:lb P fr W σ.h s)(L:lm P env W σ s.heap):C2 P fr A env W σ s (.builtin "str.split") BZ:=by
 intro a b c d h1 h2 J;unfold BZ at J⊢;refine am (zQ J) λx e1 J=>?_;refine ?_;refine am (zQ J) λy e2 J=>?_;refine ?_;obtain rfl:=qI e1;obtain rfl:=qI e2;refine bo h1.T λt N Z q=>?_;subst N;refine am h2.T λu N q=>?_;subst N;by_cases O:vY x y=Ye
 .show Yi _ _ _ (kq P fr env W σ s<|(if _ then _ else _:Rs V).I σ) _ _;erw[d9 O];unfold vY at O;simp only[j0,t4,v1]at O;refine bC λX=>?_;obtain⟨⟨⟨Y,q2⟩,U⟩,T⟩:=O;obtain hy:(y.length==0)=Yc:=by erw[Y];rfl
  refine X ?_;cases h1:Yk (x.length<y.length)||decide (sJ x<sJ y)with|true=>exact rB lA (eS _ _ _) mN (mD _ _) (meets_str_split_cannot_occur x y t u h1)<|G7 (l:=[(x,t)]) I L (d9 h1).symm T U|false=>cases S:(gC x y 0 x.length<|x.length+1).isEmpty with|true=>exact rB lA (eS _ _ _) mN (mD _ _) (meets_str_split_not_found x y t u h1 hy S)<|G7 (l:=[(x,t)]) I L ((d8<|nY h1).trans<|d9 S).symm T U|false=>refine rB lA (eS _ _ _) mN (mD _ _) (meets_str_split_sep x y t u h1 hy S Z q2) ?_;rw[strsFrom_eq];exact G7 (l:=numbered s.toks _) I L ((numbered_texts _ _).trans ((d8<|nY h1).trans<|d8<|nY S).symm) T U
 .exact g9 (i6 (λr:Rs V=>r.I σ)<|d8 O) J
theorem Sf(I:lb P fr W σ.h s)(L:lm P env W σ s.heap):C2 P fr A env W σ s (.builtin "str.join") Bq:=by
 intro a b c d h1 h2 u;unfold Bq at u⊢;refine am (zQ u) λN e1 u=>?_;refine ?_;refine am (zQ u) λts e2 u=>?_;erw[e2];obtain rfl:=qI e1;refine am h1.T λt J q=>?_;subst J;refine jh e2 λxs T Z=>cm (xK I h2 T) λa items J hl Y hz=>?_;subst J;refine am (RI Y Z) λl U J=>?_;subst J;by_cases S:(JoinOk N (l.map (·.1))&&kU (i_ N<|l.map (·.1)))=Ye;.show Yi _ _ _ (kq P fr env W σ s<|(if _ then _ else _:Rs V).I σ) _ _;erw[d9 S];rw[j0]at S;obtain⟨X,O⟩:=S;unfold kU at O;rw[j0,t4]at O;exact rB rR (eS _ _ _) PySem.F.entry_str_join (PySem.F.args_str_join_2 _ _) (meets_str_join_list N t a l<|by have:=X;unfold JoinOk at this;simpa using this) ⟨by refine pd U<|?_;exact hl,post_join l ⟨O.1,λt' k=>kO I L Y7<|.d6 _ _ O.1 O.2⟩⟩
 .exact g9 (i6 (λr:Rs V=>r.I σ)<|d8 S) u
theorem Sg(I:lb P fr W σ.h s)(L:lm P env W σ s.heap):C2 P fr A env W σ s (.builtin "str.expandtabs") xq:=by
 intro a b c d h1 h2 J;obtain hne':=ng J;refine am (zM<|hne') λx e1 q=>?_;clear J;obtain rfl:=qI e1;refine am (zM<|show(qV b).elim Rs.b _≠.b from hne') λi e2 q=>?_;obtain rfl:=qJ e2;obtain e3:xq (.f x) (.d i) σ.h=if pa x i then nj (.f<|mh i.toNat x) σ.h else .b:=Y7;rw[e3]at hne'⊢;by_cases h:pa x i=Ye;.rw[d9 h];refine am h1.T λq u q=>?_;subst u;refine bn h2.U λq u=>?_;subst u;have F:=h;unfold pa at F;rw[j0,j0,j0]at F;exact RW h λt' k=>kO I L Y7<|.d6 _ _ (k9 F.1.2) F.2
 .exact g9 (d8 h) hne'
theorem Sh(S:A.handled=Y8)(I:lb P fr W σ.h s)(L:lm P env W σ s.heap):C2 P fr A env W σ s (.builtin "max") JQ:=by
 intro a b c d h1 h2 F;obtain⟨x,ex⟩:=qP<|ng F;obtain rfl:=qJ ex;obtain⟨y,O⟩:=qP (ng F:(qV b).elim Rs.b (λy=>nj (.d<|if y>x then y else x) σ.h)≠.b);obtain rfl:=qJ O;obtain⟨t,rfl⟩:=C0 h1 Y7;obtain⟨u,rfl⟩:=C0 h2 Y7;refine max_two_ints S λJ N hk=>?_;obtain st:=kc.grow (s':={s with heap:=J,toks:=N}) I L hk Y7 Y7;refine kq.F st<|kO st.f st.l Y7 ?_;by_cases z:y>x;.rw[d9 z,d9 z];exact .cr _ _
 .rw[d8 z,d8 z];exact .cr _ _
theorem Si(I:lb P fr W σ.h s)(L:lm P env W σ s.heap):C1 P fr A env W σ s (.builtin "re.Match.start") JR:=by intro a c h1 F;obtain⟨x,J⟩:=qP<|ng F;obtain rfl:=wZ J;refine bp (Db I h1) λa o u X q=>?_;subst u;exact PQ X<|kO I L Y7<|.cr _ _
theorem Sj(I:lb P fr W σ.h s)(L:lm P env W σ s.heap):C1 P fr A env W σ s (.builtin "re.Match.span") JS:=by intro a c h1 F;obtain⟨⟨p,e⟩,J⟩:=qP<|ng F;obtain rfl:=wZ J;refine bp (Db I h1) λa o u X q=>?_;subst u;refine PR X ?_;exact⟨_,_,_,Y7,kc.d6 I L {cls:=.type "tuple",data:=.seq #[.int p s.toks,.int e<|s.toks+1]} Y7 Y7 Y7 Y7,.jv (by show(if _=_ then _ else _)=_;exact bj Y7 Y7) Y7 Y7 (by show(2:Y9)<=k8;decide)<|.S (.cr _ _)<|.S (.cr _ _) .U⟩
theorem Sk(I:lb P fr W σ.h s)(L:lm P env W σ s.heap):C2 P fr A env W σ s (.builtin "str.lstrip") Ga:=by
 intro a b c d h1 h2 u;unfold Ga at u⊢;refine bC λJ=>?_;obtain⟨x,e1,u⟩:=zQ u;obtain⟨y,e2,u⟩:=zQ u;obtain rfl:=qI e1;obtain rfl:=qI e2;obtain⟨_,rfl,N,_⟩:=h1.T;obtain⟨_,rfl,_⟩:=h2.T;refine J ?_;by_cases F:kU (gO x y)=Ye;.show Yi _ _ _ (kq P fr env W σ s<|(if kU (gO x y)then nj (.f<|gO x y) σ.h else .b:Rs V).I σ) _ _;rw[d9 F];unfold kU at F;rw[j0]at F;exact SC.lstripChars (λt' k=>kO I L Y7<|.d6 _ _ (k9 F.1) F.2) N
 .exact g9 (i6 (λr:Rs V=>r.I σ)<|d8 F) u
theorem Sl(I:lb P fr W σ.h s)(L:lm P env W σ s.heap):C1 P fr A env W σ s (.builtin "str.isalnum") vh:=by intro a c h1 u;unfold vh at u⊢;refine bC λF=>?_;obtain⟨x,e1,u⟩:=zQ u;obtain rfl:=qI e1;obtain⟨_,rfl,_⟩:=h1.T;refine F ?_;exact SC.isalnum<|qL Y7 (kc.cB I L)<|.jt _
theorem Sm(I:lb P fr W σ.h s)(L:lm P env W σ s.heap):C2 P fr A env W σ s (.builtin "str.count") Dc:=by intro a b c d h1 h2 u;unfold Dc at u⊢;refine bC λF=>?_;obtain⟨x,e1,u⟩:=zQ u;obtain⟨y,e2,u⟩:=zQ u;obtain rfl:=qI e1;obtain rfl:=qI e2;obtain⟨_,rfl,_⟩:=h1.T;obtain⟨_,rfl,_⟩:=h2.T;refine F ?_;exact SC.count<|kO I L Y7<|.cr ..
theorem Sn{code:Yp Y9}{pt:YF}(hp:ox P.B pt code)(I:lb P fr W σ.h s)(L:lm P env W σ s.heap){v:V}{c:n4}(h2:VR W σ.n v c):BG P fr A env W σ s (.builtin "re.Pattern.match") [.ref pt,c]<|wY code v σ.h:=by
 intro N;obtain hne':=ng N;refine am (zM<|hne') λx e1 z=>?_;obtain rfl:=qI e1;rw[(by show vF code x [] σ.h=_;exact bj jg Y7:wY code (.f x) σ.h=(zG code x.cps (Ze (zB []).toNat x.cps.size)<|min (zC []).toNat x.cps.size).elim .b λr=>nj (ul r) σ.h)]at hne'⊢;refine bo h2.T λt F S hs=>?_;subst F;refine bn (zM hne') λq J=>?_;erw[J.1];refine bC λO=>?_;obtain⟨op,fs,ct,p1,p2,p3,p4,p5,p6,oc,items,e,p7,p8,p9⟩:=hp.a;refine O ?_;refine iH JU ⟨op,I.f _ _ p1,p2⟩ It ?_<|(by unfold argsOk;refine ?_;kernel_rfl);refine Iw ⟨op,fs,ct,I.f _ _ p1,p2,p3,p4,p5,p6,oc,items,e,I.f _ _ p7,p8,p9⟩ .a iu iu iu iu J.1 (λp e u=>⟨_,Y7,?_⟩) λu=>⟨_,Y7,?_⟩;.subst u;exact JO I L
 .subst u;exact⟨_,_,W,Y7,kc.cB I L,.none⟩
theorem yX{i j:YA}{cargs:Lv}{a b:Rs V}(h1:BG P fr A env W σ s (.builtin j) cargs a)(h2:BG P fr A env W σ s (.builtin i) cargs b):BG P fr A env W σ s (.builtin i) cargs<|if i=j then a else b:=by
 by_cases h:i=j;.subst h;exact(d9 Y7).symm▸h1
 .exact(d8 h).symm▸h2
theorem So(Q:tT P G)(F:Fm P lv fr A env)(I:lb P fr W σ.h s)(L:lm P env W σ s.heap){i:YA}{args:Yb V}{cargs:Lv}(u:ll W σ.n args cargs):BG P fr A env W σ s (.builtin i) cargs<|nz i args σ.h:=by refine yX ((RZ I L).L u) ?_;refine yX (C2.L (λa b c d h1 h2 J=>RH I L F.f h1 h2 J) u) ?_;refine yX (yW (G:=BG P fr A env W σ s (.builtin "str.find") cargs) (λq=>K3 (λh=>g9 Y7 h) λa b c d e=>by subst e;exact Sa I L u) λq=>RY (λh=>g9 Y7 h) λa b c e=>by subst e;exact Sb I L u) ?_;refine yX (K3 (G:=BG P fr A env W σ s (.builtin "str.rfind") cargs) (λh=>g9 Y7 h) λa b c d e=>by subst e;exact Sd I L u) ?_;refine yX ((Se I L).L u) ?_;refine yX ((Sf I L).L u) ?_;refine yX ((Sg I L).L u) ?_;refine yX ((Sh F.b I L).L u) ?_;refine yX ((Si I L).L u) ?_;refine yX ((Sj I L).L u) ?_;refine yX ((Sk I L).L u) ?_;refine yX ((Sl I L).L u) ?_;refine yX ((Sm I L).L u) ?_;refine yX (C1.L (λa c h1 J=>AH I L h1 J) u) ?_;refine yX (C2.L (F:=λp v H=>((wD p).bind AI).elim .b λcode=>wY code v H) (λp v c d h1 h2 J=>?_) u) λh=>g9 Y7 h;change(((wD p).bind AI).elim Rs.b λcode=>wY code v σ.h).I σ≠.b at J;show Yi _ _ _ (kq P fr env W σ s<|(((wD p).bind AI).elim Rs.b λcode=>wY code v σ.h).I σ) _ _;refine am (zM<|ng J) λcode e1 e2=>?_;rw[e2]at J⊢;refine jh e1 λa N O=>?_;obtain rfl:=wC N;obtain rfl:=h1.ds;exact Sn (Q.e a code O).1 I L h2 J
theorem Sp(I:lb P fr W σ.h s)(L:lm P env W σ s.heap):C1 P fr A env W σ s (.type "tuple") yq:=by intro a c h1 u;unfold yq at u⊢;refine am (zQ u) λxs e u=>?_;erw[e];refine cm (xK I h1 e) λa items F J O hz=>?_;subst F;refine call_tuple_list J (λN hk=>?_) hz;obtain st:kc P fr env W σ s W σ {s with heap:=N}:=kc.grow I L hk Y7 Y7;exact kq.F st<|IZ (items:=items) st.f st.l O hz Y7 Y7 Y7
set_option tactic.hygienic true in theorem Sr(Q:tT P G)(Z:K1 P lv fns)(hM:Gi P lv lam)(F:Fm P lv fr A env)(I:lb P fr W σ.h s)(L:lm P env W σ s.heap){f:V}{args:List V}{T:n4}{cargs:Lv}(U:VR W σ.n f T)(S:ll W σ.n args cargs)(u:(C3 G fns lam f args σ.h).I σ≠.b):zl P.M A T s/\wpAny P.M A (call T cargs []) (kq P fr env W σ s<|(C3 G fns lam f args σ.h).I σ) nu s:=by cases f with
 |m v=>obtain rfl:=U.ds;clear U;cases T with
  |builtin i=>exact⟨λE Q J=>j6<|J _,So Q F I L S u⟩|type i=>exact⟨λE Q J=>j6<|J _,(by
    refine yW (G:=BG P fr A env W σ s (.type i) cargs) (λhi=>?_) λq=>yW (λhi=>?_) λq u=>g9 Y7 u;.subst hi;exactλu=>RG I L S u
    .subst hi;exact(Sp I L).L S:(wq i args σ.h).I σ≠.b->Yi P.M A (Zm (.type i) cargs []) (kq P fr env W σ s<|(wq i args σ.h).I σ) nu s) u⟩|ref a=>
   by_cases hs:a=G.c;.have e:C3 G fns lam (.m<|.ref a) args σ.h=rf args σ.h:=d9 hs;rw[e]at u|-;subst hs;exact am Q.h λpt p1 p2=>⟨λE Q J=>g7<|iD (I.f _ _ p1)<|j6<|J _,by obtain hne':=ng u;cases args with|nil=>exact g9 Y7 u|cons v r=>
      refine bp S.O λc cs N h1 h2=>?_;subst N;refine bn (qP<|hne') λx ex=>?_;clear S;obtain rfl:=qI ex;refine bn (qP<|hne') λis hi=>?_;have hB:rf (.f x::r) σ.h=G9 x is σ.h:=by show(AG r).elim Rs.b _=_;rw[hi];rfl
      rw[hB]at u|-;refine bo h1.T λt N hl hs=>?_;subst N;unfold G9 at u|-;split at u
      .rename_i O;rw[d9 O];refine bC λn0=>?_;obtain⟨op,fs,ct,X,Y,p3,p4,p5,p6,oc,items,e,p7,p8,p9⟩:=p2.a;refine n0 ?_;refine PM (I.f _ _ p1) ⟨op,fs,ct,I.f _ _ X,Y,p3,p4,p5,p6,oc,items,e,I.f _ _ p7,p8,p9⟩ (JN h2 hi) hl O.1 O.2.1 O.2.2.1 O.2.2.2 (λp e J=>?_) λJ=>?_;.rw[J];obtain aA:=kc.d6 (s':={s with heap:=s.heap.push<|xL p e}) I L (xL p e) Y7 Y7 Y7 Y7;obtain aB:=kc.d6 (s':={s with heap:=(s.heap.push<|xL p e).push<|xI x t pt s.heap.objs.size (Ze (zB is).toNat x.cps.size)<|min (zC is).toNat x.cps.size}) aA.f aA.l (xI x t pt s.heap.objs.size (Ze (zB is).toNat x.cps.size)<|min (zC is).toNat x.cps.size) Y7 Y7 Y7 Y7;refine⟨_,_,_,Y7,aA.cr aB,?_⟩;rw[<-lL ..];refine .mt (ot:=xL p e) (bj Y7 Y7) Y7 Y7 Y7 (aB.w.d.fz _ _<|bj Y7 Y7) Y7 Y7 Y7
       .rw[J];exact⟨_,_,W,Y7,kc.cB I L,.none⟩
      .exact g9 Y7 u⟩
   .have e:C3 G fns lam (.m<|.ref a) args σ.h=(G.e a).elim (fns a args σ.h) λcode=>Br code args σ.h:=d8 hs;rw[e]at u|-;cases O:G.e a with|none=>rw[O]at u;exact Z fr A env F W σ s I L _ args cargs S u|some code=>rw[O]at u;exact am (Q.l a code O) λpt p1 p2=>⟨λE Q J=>g7<|iD (I.f _ _ p1)<|j6<|J _,RT p1 p2 I L S u⟩
  |_=>exact g9 Y7 u
 |o k=>refine⟨bo U.Z<|λb N hk hb=>?_,(by refine K2 (G:=BG P fr A env W σ s T cargs) (λu=>g9 Y7 u) λa e=>?_;subst e;refine am S.cB λq N h1=>?_;subst N;exactλu=>RR I L F.f U h1 u:(wP args λx=>xD (.g k) x σ.h).I σ≠.b->Yi P.M A (Zm T cargs []) (kq P fr env W σ s<|(wP args λx=>xD (.g k) x σ.h).I σ) nu s) u⟩;subst N;exactλE Q J=>g7<|iD (I.g _ _ hb).1<|j6<|J _|r ps x cs=>exact hM fr A env F W σ s I L _ _ _ _ args cargs U S u|_=>exact g9 Y7 u
theorem Ss{M:Zb}{x m:Yg}{t:b_}{i:YA}{R:n4×Lv->j8->Prop}{E:Pv}{I:s_ Yj}(u:R (.builtin i,[.str x t]) s):rg m=Y6 i->Yi M A (ZP (.str x t) m I) R E s:=by
 refine yW (G:=MG M A s (.str x t) m R E I i) (λhm=>?_) λq=>?_;.subst hm;intro e;obtain rfl:=c0 e;with_reducible exact J_ (.str x t) (eS _ _ _) rQ PySem.F.type_str_find nT u
 refine yW (λhm=>?_) λq=>?_;.subst hm;intro e;obtain rfl:=c0 e;with_reducible exact J_ (.str x t) (eS _ _ _) pU PySem.F.type_str_rfind nT u
 refine yW (λhm=>?_) λq=>?_;.subst hm;intro e;obtain rfl:=c0 e;with_reducible exact J_ (.str x t) (eS _ _ _) lA PySem.F.type_str_split nT u
 refine yW (λhm=>?_) λq=>?_;.subst hm;intro e;obtain rfl:=c0 e;with_reducible exact J_ (.str x t) (eS _ _ _) rR PySem.F.type_str_join nT u
 refine yW (λhm=>?_) λq=>?_;.subst hm;intro e;obtain rfl:=c0 e;with_reducible exact J_ (.str x t) (eS _ _ _) oE PySem.F.type_str_expandtabs nT u
 refine yW (λhm=>?_) λq=>?_;.subst hm;intro e;obtain rfl:=c0 e;with_reducible exact J_ (.str x t) (eS _ _ _) PySem.F.slot_str_lstrip PySem.F.type_str_lstrip nT u
 refine yW (λhm=>?_) λq=>?_;.subst hm;intro e;obtain rfl:=c0 e;with_reducible exact J_ (.str x t) (eS _ _ _) PySem.F.slot_str_isalnum PySem.F.type_str_isalnum nT u
 refine yW (λhm=>?_) λq=>λe=>lz e;.subst hm;intro e;obtain rfl:=c0 e;with_reducible exact J_ (.str x t) (eS _ _ _) PySem.F.slot_str_count PySem.F.type_str_count nT u
theorem Su{M:Zb}{a:YF}{o:Yr}{m:Yg}{i:YA}{R:n4×Lv->j8->Prop}{E:Pv}{I:s_ Yj}(u:s.heap.get? a=Y6 o)(J:o.cls=.type "list")(hd:o.dict=Y8)(L:R (.builtin i,[.ref a]) s):Gf m=Y6 i->Yi M A (ZP (.ref a) m I) R E s:=by refine yW (G:=MG M A s (.ref a) m R E I i) (λhm=>?_) λq=>λe=>lz e;.subst hm;intro e;obtain rfl:=c0 e;exact lJ ⟨o,u,J⟩ PySem.F.plainAttrs_list pH ZX (λa e=>by injection e with e;subst e;exact⟨o,u,hd⟩) L
theorem Sv{M:Zb}{a:YF}{o:Yr}{m:Yg}{i:YA}{R:n4×Lv->j8->Prop}{E:Pv}{J:s_ Yj}(u:s.heap.get? a=Y6 o)(F:o.cls=.type "re.Match")(hd:o.dict=Y8)(I:R (.builtin i,[.ref a]) s):Dd m=Y6 i->Yi M A (ZP (.ref a) m J) R E s:=by
 refine yW (G:=MG M A s (.ref a) m R E J i) (λhm=>?_) λq=>?_;.subst hm;intro e;obtain rfl:=c0 e;exact lJ ⟨o,u,F⟩ kB IP (by show H_ _=_;kernel_rfl) (λa e=>by injection e with e;subst e;exact⟨o,u,hd⟩) I
 refine yW (λhm=>?_) λq=>?_;.subst hm;intro e;obtain rfl:=c0 e;exact lJ ⟨o,u,F⟩ kB IQ (by show H_ _=_;kernel_rfl) (λa e=>by injection e with e;subst e;exact⟨o,u,hd⟩) I
 refine yW (λhm=>?_) λq=>λe=>lz e;.subst hm;intro e;obtain rfl:=c0 e;exact lJ ⟨o,u,F⟩ kB Ix (by show H_ _=_;kernel_rfl) (λa e=>by injection e with e;subst e;exact⟨o,u,hd⟩) I
theorem Sw(Q:tT P G)(I:lb P fr W σ.h s)(L:lm P env W σ s.heap){o:V}{m:Yg}{co:n4}{vf:V}{first:Yb V}(S:VR W σ.n o co)(hg:xr G o m σ.h=Y6 (vf,first)){pl:s_ Yj}{E:Pv}{R:n4×Lv->j8->Prop}(T:∀r s' W',kc P fr env W σ s W' σ s'->VR W' σ.n vf r.1->ll W' σ.n first r.2->R r s'):Yi P.M A (ZP co m pl) R E s:=by refine bC λO=>?_;unfold xr at hg;cases e1:kt o with|some x=>replace hg:=e1▸hg;refine jk hg λi J F=>?_;injection F with F h_;subst F h_;clear hg;obtain rfl:=qI e1;refine bo S.T λt N h1 h2=>?_;subst N;exact O<|Ss (T _ s W (kc.cB I L) (.jr _)<|.S (.d6 _ _ h1 h2) .U) J|none=>cases e2:Bd o with|some x=>rw[e1,e2]at hg;refine jk hg λi J F=>?_;injection F with F h_;subst F h_;clear hg;obtain rfl:=wZ e2;refine dg (Db I S) λa U N X h1 h2 h3=>?_;subst N;exact O<|Sv h1 h2 h3 (T _ s W (kc.cB I L) (.jr _)<|.S S .U) J|none=>rw[e1,e2]at hg;cases e0:wD o with
   |some a=>
    rw[e0]at hg;unfold Gg at hg;by_cases hm:m=("match":Yg);.replace hg:=bi hm hg;refine jk hg λcode Y J=>?_;injection J with J h_;subst J h_;subst hm;obtain rfl:=wC e0;obtain rfl:=S.ds;obtain⟨_,U,g1,g2,g3⟩:=Q.e a code Y;exact O<|lJ ⟨U,I.f _ _ g1,g2⟩ ⟨⟨"object.__getattribute__",by kernel_rfl,jg⟩,by kernel_rfl⟩ JU (by show H_ _=_;kernel_rfl) (λb e=>by injection e with e;subst e;exact⟨U,I.f _ _ g1,g3⟩)<|T _ s W (kc.cB I L) (.jr _)<|.S (.jr _) .U
    .exact lz<|(d8 hm).symm.trans hg|none=>rw[e0]at hg;refine jh hg λk Y u=>?_;clear hg;obtain rfl:=JV Y;obtain⟨rfl,hk⟩:=S.cB;unfold De at u;cases hi:jS G (.g k) σ.h with
   |some r=>
    obtain⟨k',d,fs⟩:=r;rw[hi]at u;obtain⟨e0,h1,h2⟩:=wK hi;injection e0 with e0;subst e0;by_cases hl:fs.lookup m=Y8;.refine jk ((d9 hl).symm.trans u) λg e1 e2=>?_;injection e2 with e2 h_;subst e2 h_;exact O<|by refine dg (G4 I h1 h2) λes e Z q q ac ia=>am (Z.Z (x:=m) (e:=e)) λr a3 h3=>?_;rw[hl]at h3;cases r with|some _=>exact h3.elim|none=>exact method_fn (Q.cls.a.keeps I.f) ia Q.cls.d Q.cls.e (Q.m m g e1).1 (Q.m m g e1).2 (by show pV (·.isSome) (lookIn m<|dictOf es e)=_;erw[a3];rfl)<|T _ s W (kc.cB I L) (.jr _)<|.S (.ju hk) .U
    .exact lz<|(d8 hl).symm.trans u|none=>rw[hi]at u;obtain⟨⟨_,xs⟩,J,u⟩:=ji<|u;refine jk u λi F e6=>?_;injection e6 with e6 h_;subst e6 h_;obtain⟨e7,e8⟩:=jB J;injection e7 with e7;subst e7;obtain⟨_,U,a6,Z⟩:=I.o _ _ e8;refine bp Z.I λitems e N r z=>?_;subst N;exact O<|Su a6 Y7 Y7 (T _ s W (kc.cB I L) (.jr _)<|.S (.ju hk) .U) F
theorem Gj(Q:tT P G)(hF:K1 P lv fns)(hM:Gi P lv lam):tv P<|mk G lv fns lam:=by
 refine⟨λv f e=>?_,⟨Q.i,Q.k,λfr A env F W σ s I L f args cf cargs u ha J=>Sr Q hF hM F I L u ha J,λfr A env F W σ s I L o m co vf first O hg pl E R Y=>Sw Q I L O hg Y,?_⟩,?_⟩
 .refine jh e λd e1 e2=>?_;obtain rfl:=wC e1;by_cases hd:d=G.f;.subst hd;cases(d9 Y7).symm.trans e2;exact⟨_,_,_,Y7,Q.j,Q.cls.a⟩
  .exact lz<|(d8 hd).symm.trans e2
 .intro fr A env F W σ s I L o f co O J;refine bC λN=>?_;replace J:yZ G o f σ.h≠.a:=λq=>J<|i6 (Ov.st · σ) q;cases hi:jS G o σ.h with
  |some q=>
   obtain⟨k,d,fs⟩:=q;by_cases u:G.a.contains f=Ye;.cases hv:fs.lookup f with|none=>exact J<|by unfold yZ;erw[hi];exact(d9 u).trans<|by erw[hv];rfl|some v=>
     by_cases Z:Gb v=Ye
     .have e:yZ G o f σ.h=.b v:=by unfold yZ;erw[hi];refine(d9 u).trans ?_;erw[hv];exact d9 Z
      obtain⟨rfl,h1,h2⟩:=wK hi;obtain⟨rfl,hk⟩:=O.cB;refine N ?_;show Yi _ _ _ (kq P fr env W σ s<|(yZ G (.g k) f σ.h).st σ) nu s;erw[e];exact RE Q.cls I h1 h2 (Q.d f u) hv λc hc=>by cases v<;>first|(obtain rfl:=hc;first|rfl|exact Z)|(obtain⟨_,rfl⟩:=hc;rfl)|(obtain⟨rfl,_⟩:=hc;rfl)|(obtain⟨_,rfl,_⟩:=hc;rfl)|(obtain⟨_,_,_,rfl,_⟩:=hc;rfl)|(obtain⟨_,_,_,_,rfl,_⟩:=hc;rfl)|(obtain⟨_,_,_,_,_,_,_,_,_,rfl,_⟩:=hc;rfl) λc t hc=>⟨_,σ,W,Y7,kc.toks I L t,hc⟩
     .exact J<|by unfold yZ;erw[hi];refine(d9 u).trans ?_;erw[hv];exact d8 Z
   .exact J<|by unfold yZ;erw[hi];exact d8 u|none=>
   by_cases u:f=("append":Yg)
   .have e:yZ G o f σ.h=(xk σ.h o).elim .a λq=>.b<|.o q.1:=by unfold yZ;erw[hi];exact d9 u
    cases U:xk σ.h o with|none=>exact J<|by refine zJ5 e<|zJ5 U ?_;rfl|some q=>
     obtain⟨k,xs⟩:=q;obtain⟨rfl,hl⟩:=jB U;subst u;obtain T:xo (.g k) σ.h=nj (.o k) σ.h:=by unfold xo;erw[U];rfl
     obtain h:=RS (A:=A) I L O (by erw[T];exactλq=>by cases q);rw[T]at h;refine N ?_;show Yi _ _ _ (kq P fr env W σ s<|(yZ G (.g k) _ σ.h).st σ) nu s;refine zJ5 e<|zJ5 U ?_;exact h
   .exact J<|by unfold yZ;erw[hi];exact d8 u
 .intro fr A env F W σ s I L o f v co c H O hv hs E R Y;refine bC λN=>?_;obtain⟨⟨k,d,fs⟩,hi,V⟩:=ji<|hs;obtain⟨rfl,h1,h2⟩:=wK hi;obtain⟨rfl,hk⟩:=O.cB;by_cases u:G.a.contains f=Ye/\fs.length<=100;.cases(d9 u).symm.trans V;exact N<|(by
     refine dg (G4 I h1 h2) λes e X a2 aa S ia=>set_plain (Q.cls.a.keeps I.f) ia Q.cls.f<|osa_open (r:=Y8) (Q.cls.a.keeps I.f) ia Q.cls.c (by unfold takerIn;erw[Q.d f u.1];rfl) λb=>am (any_some Q.cls.dict) λcd hc a4=>?_;refine bp (X.U (x:=f) (hs:=sC P.w.params f) (t:=s.toks+1) (e:=e) hv) λa3 e' p1 p2 p3=>bC λN=>?_;obtain⟨hx,ab,hn,-⟩:=ia;refine N<|g7<|j6<|g7<|g7<|wpAny_loadPart hx<|g7<|(looks_clsIn (Q.cls.a.keeps (I.toks<|s.toks+1).f) hc).here ?_;erw[a4];refine j6 (a:=Y6<|W.c d)<|g7<|j6<|g7<|g7<|g7<|wpAny_askSetting<|j6<|g7<|wpAny_mkText<|g7<|wpAny_loadPart S ?_;dsimp only;rw[aRefKeyMayBeTheName_at,(by rw[<-Array.any_toList,<-Array.any_toList,List.toList_toArray,(FR.Y (x:=f) X).2,rZ]:(!es.toArray.any (·.key.isStr f)&&es.toArray.any (·.refKey))=Yc)];refine wpAny_updatePart S ?_;obtain hu:(s.heap.update (W.c d)<|Obj.putName f (sC P.w.params f) (.str f<|s.toks+1) c).get? (W.c d)=Y6 (dictOf a3 e'):=by have:=rP (Obj.putName f (sC P.w.params f) (.str f<|s.toks+1) c) S (by erw[p1];rfl);rw[p1]at this;exact this
     exact g7<|wpAny_lookBehind hu (pastItsLine_dict<|by refine ?_;have:=X.X;exact g8 p3<|m9<|this▸g8 u.2 iu)<|j6<|(λs' st=>Y W s' st) _<|kc.ju I L a2 F.f (.dict<|kn f v fs) (.dict p2) (λb o T e=>((mA ..).2 b T).trans e) hu Y7 Y7)
  .exact lz<|(d8 u).symm.trans V
end
end Mine.Lake
namespace Mine.Lake
open PySem PySem.W PyProof.Rows
def Sy(K:L_)(f:YF)(sc:Yt)(ps:Yb Yg)(body:Yb YW):Prop:=∃u,(∃o:Yr,K.lookup f=Y6 o/\o.data=.func u)/\u.scope=sc/\u.body=.stmts body/\u.closure=[]/\u.globals=dY/\u.builtins=fL/\(∃(c:YF)(o:Yr)(vs:Yp n4)(t:b_),u.code=.ref c/\K.lookup c=Y6 o/\o.data=.fields vs/\vs[1]?=Y6 (.str u.qualname t))/\jT sc ps=Ye/\∀cargs:Lv,cargs.length=ps.length->U_ u ⟨cargs,[]⟩=Zg (ps.zip cargs)
def xO(K:L_)(f:YF)(sc:Yt)(ps:Yb Yg)(b:S):Prop:=∃body,Sy K f sc ps body/\qk b sc (.l body)
noncomputable abbrev wr:=Yb<|Addr×Yt×Yb Yg×S
def zS(rows:wr)(cx:Sx)(a:YF)(args:Yb V)(H:Hp):Rs V:=match rows.lookup a with|some (sc,ps,b)=>sx sc ps b cx args H|none=>.b
def K4:AJ:=λq q q=>.b
def Df(G:tS)(u:Yb V->Hp->Rs V)(fns:AJ):AJ:=λa args H=>if a=G.C then uk G.C u args H else fns a args H
def Sz:Bt:=λq q q q q=>.b
def Gk(cx:Sx):Bt:=λps x cs args H=>Bm ps x cs cx.c args H
def rk(G:tS)(rows:wr)(fI:YF):Y9->Sx|0=>mk G 0 K4 Sz|1=>mk G 1 (zS rows<|rk G rows fI 0)<|Gk<|rk G rows fI 0|n+2=>mk G (n+2) (Df G (zS rows (rk G rows fI n) fI)<|zS rows<|rk G rows fI<|n+1)<|Gk<|rk G rows fI<|n+1
section
variable{P:mx}{fr:Ln}{A:cG}{env:Zk}{W W':Wd}{σ σ':St}{s s':j8}{cx:Sx}{G:tS}{rows:wr}{fI:YF}
theorem wS:∀n,(rk G rows fI n).j=n|0=>Y7|1=>Y7|_+2=>Y7
abbrev Gl(K:L_)(rows:wr):Prop:=∀a sc ps b,rows.lookup a=Y6 (sc,ps,b)->xO K a sc ps b
set_option backward.match.sparseCases true in theorem Gm(Xn:G.K.In P.B)(U:P.B.NoLimit)(hR:Gl G.K rows){cx:Sx}(C:tv P cx)(F:Fm P (cx.j+1) fr A env)(I:lb P fr W σ.h s)(L:lm P env W σ s.heap){a:Addr}{args:List V}{cargs:Lv}(ha:ll W σ.n args cargs)(J:(zS rows cx a args σ.h).I σ≠.b):zl P.M A (.ref a) s/\codeAny P.M A (.call (.ref a) ⟨cargs,[]⟩) (λr s'=>match r with|.ok<|.ret v=>kq P fr env W σ s ((zS rows cx a args σ.h).I σ) v s'|.ok _=>False|.error e=>nu e s') s:=by cases O:rows.lookup a with
 |none=>
  have:zS rows cx a args σ.h=.b:=by unfold zS;rw[O]
  rw[this]at J;exact g9 Y7 J|some r=>refine bC λn0=>?_;obtain⟨sc,ps,b⟩:=r;refine n0 ?_;rw[(by unfold zS;rw[O]:zS rows cx a args σ.h=sx sc ps b cx args σ.h)]at J|-;refine am (hR _ _ _ _ O) λbody hd Z=>am (fv hd λN h1 h2 h3 h4 h5 h6 h7 h8 Y=>⟨N,⟨am h1 λo e1 e2=>⟨o,Xn _ _ e1,e2⟩,U,dq h7 λc o vs t e1 e2 e3 e4=>⟨c,o,vs,t,e1,Xn _ _ e2,e3,e4⟩,h3,h4,h5,h6,λs z cargs hc=>BindsTo.of_eq<|Y cargs hc,by erw[h2];exact h8⟩,h2⟩:∃N,BX P a N ps body/\N.scope=sc) λN K X=>?_;subst X;exact⟨λE Q O=>by refine am K.a λo ho hd=>g7<|iD (I.f _ o ho) ?_;erw[hd];exact j6<|O _,by
      refine cg (by
        have u:args.length=ps.length:=by refine lZ λq=>J ?_;unfold sx;erw[d8 q];rfl
        refine⟨u,λq=>J ?_⟩;unfold sx;refine zJ5 (d9 u)<|zJ5 q ?_;rfl:args.length=ps.length/\(ex b cx<|li N.scope (ps.zip args) σ.h).F sk≠.b) λu T=>?_;obtain e:sx N.scope ps b cx args σ.h=(ex b cx<|li N.scope (ps.zip args) σ.h).F sk:=d9 u;erw[e];refine r_ (RB K (λfr A env W s F S I L=>Z _ cx C fr A env F S W _ s I L<|Rs.J T) F I L ha u<|λfl σ' q=>by rw[q]at T;exact T) λr s' h=>?_;match r with|.ok<|.ret v=>exact h|.ok .next=>exact h|.ok .brk=>exact h|.ok .cont=>exact h|.error e=>exact h⟩
theorem K5(u:P.B.NoLimit){cx:Sx}(C:tv P cx):Gi P (cx.j+1)<|Gk cx:=λfr A env F W σ s I L ps x cs O args cargs hv N J=>RD C.a u F I L hv N J
set_option backward.match.sparseCases true in theorem vW(Q:tT P G)(u:P.B.NoLimit)(O:Gl G.K rows)(hi:findIn G.K (.ref G.C) "__init__"=some (some<|.ref fI))(S:typeIn G.K (.ref fI)=some (.type "function")):∀n,tv P<|rk G rows fI n
 |0=>Gj Q (λfr A env F W σ s I L a args cargs N J=>g9 Y7 J)<|λfr A env F W σ s I L ps x cs U args cargs hv N J=>g9 Y7 J|1=>by refine Gj Q (λfr A env F W σ s I L a args cargs N J=>?_) (by obtain M:=K5 u<|vW Q u O hi S 0;exact M);obtain⟨k,c⟩:=Gm Q.cls.a u O (vW Q u O hi S 0) (by refine ?_;exact F) I L N J;exact⟨k,mI c⟩|n+2=>by
  refine Gj Q (λfr A env F W σ s I L a args cargs N J=>?_) (by obtain M:=K5 u<|vW Q u O hi S<|n+1;rw[wS (G:=G) (rows:=rows) (fI:=fI)<|n+1]at M;exact M);revert J;unfold Df;by_cases T:a=G.C;.subst T;erw[d9 Y7];intro J;exact wp (lv:=n+1) Q.cls hi S (λfr A env F W σ s I L args cargs N J=>(Gm Q.cls.a u O (vW Q u O hi S n) (by erw[wS (G:=G) (rows:=rows) (fI:=fI) n];exact F) I L N J).2) F I L N J
  .erw[d8 T];intro J;obtain⟨k,c⟩:=Gm Q.cls.a u O (vW Q u O hi S<|n+1) (by erw[wS (G:=G) (rows:=rows) (fI:=fI)<|n+1];exact F) I L N J;exact⟨k,mI c⟩
end
theorem SA:∀(names:Yb<|Str×dJ)(m:Y9)(ac:Yb<|Str×YF),∀p∈ac,p∈YK m names ac:=by intro names;induction names with|nil=>exactλq q q h=>h|cons hd F u=>
  intro m ac p h;unfold YK;split;.exact u _ _ _<|.tail _ h
  .exact u _ _ _ h
theorem K6{bv:Yb<|Str×V}{L:Y9}:∀(names:Yb<|Str×dJ)(acc:Yb<|Str×YF)(cel:Yb<|Str×Y9)(H:Hp),(∀k,H.n<=k->H.o k=Y8)->(∀x k,cel.lookup x=Y6 k->k<H.n/\acc.lookup x=Y6 (L+1+k))->(∀k,(kv bv names H cel).1.n<=k->(kv bv names H cel).1.o k=Y8)/\H.n<=(kv bv names H cel).1.n/\(∀x k,(kv bv names H cel).2.lookup x=Y6 k->k<(kv bv names H cel).1.n/\(YK (L+1+H.n) names acc).lookup x=Y6 (L+1+k))/\(∀k,k<H.n->(kv bv names H cel).1.o k=H.o k)/\∀k,H.n<=k->k<(kv bv names H cel).1.n->∃x,(x,L+1+k)∈YK (L+1+H.n) names acc/\(kv bv names H cel).1.o k=Y6 (.cell<|bv.lookup x)/\(x,YH)∈names:=by intro names;induction names with|nil=>exactλacc cel H h1 h2=>⟨h1,j7 _,h2,λq q=>Y7,λk a b=>g9 b<|Nat.not_lt.mpr a⟩|cons zp r T=>
  obtain⟨x,U⟩:=zp;intro acc cel H h1 h2;erw[G3];unfold YK;by_cases hk:(U==YH)=Ye
  .simp only[d9 hk];obtain ih:=T ((x,L+1+H.n)::acc) ((x,H.n)::cel) (H.add<|.cell<|bv.lookup x) (λk u=>by have F:H.n+1<=k:=u;show(if k=H.n then _ else H.o k)=Y8;erw[d8<|eZ F];exact h1 k<|n6 F) (λy k hy=>by simp only[n3]at hy|-;cases X:y==x with|true=>rw[X]at hy;obtain rfl:=c0 hy;exact⟨u8 _,Y7⟩|false=>rw[X]at hy;exact⟨dI (h2 y k hy).1,(h2 y k hy).2⟩);obtain en:L+1+(H.add<|.cell<|bv.lookup x).n=L+1+H.n+1:=Y7;refine ft ih λi1 i2 i3 i4 O=>?_;refine⟨i1,t9<|g8 (eJ<|nZ<|show _+1+(_+1)=_+1+_ from en.symm) i2,i3,λk u=>?_,λk a b=>?_⟩;.erw[i4 k<|dI u];exact bk (v9 u) Y7
   .by_cases I:k=H.n;.subst I;refine⟨x,SA _ _ _ _<|.head _,?_,by erw[show U=YH from by simpa using hk];exact .head _⟩;erw[i4 _<|u8 _];exact bj Y7 Y7
    .exact bo (O k (bI a<|gP I) b) λy S N J=>⟨y,S,N,.tail _ J⟩
  .simp only[d8 hk];exact ft (T acc cel H h1 h2) λi1 i2 i3 i4 O=>⟨i1,i2,i3,i4,λk a b=>bo (O k a b) λy S N J=>⟨y,S,N,.tail _ J⟩⟩
theorem SD{names:Yb<|Str×dJ}{y:Yg}{v:V}:∀{l:Yb<|Str×V},(l.filter<|λp=>names.lookup p.1==Y6 .local).lookup y=Y6 v->names.lookup y=Y6 .local/\l.lookup y=Y6 v:=by intro J;induction J with|nil=>exactλh=>lz h|cons zp L I=>obtain⟨z,u⟩:=zp;intro h;simp only[List.filter]at h;cases hz:names.lookup z==Y6 NameKind.local with
  |true=>rw[hz]at h;simp only[n3]at h|-;cases F:y==z with
   |true=>
    rw[F]at h;have e:y=z:=by simpa using F
    subst e;exact⟨by simpa using hz,h⟩|false=>rw[F]at h;exact I h
  |false=>rw[hz]at h;obtain⟨p1,p2⟩:=I h;refine⟨p1,?_⟩;simp only[n3];cases F:y==z with
   |true=>
    have e:y=z:=by simpa using F
    subst e;rw[p1]at hz;simp at hz|false=>exact p2
theorem SE{bv:Yb<|Str×V}{n:Y9}:∀(names:Yb<|Str×dJ)(H:Hp)(cel:Yb<|Str×Y9),n<=H.n->(∀x k,cel.lookup x=Y6 k->n<=k)->∀x k,(kv bv names H cel).2.lookup x=Y6 k->n<=k:=by intro L;induction L with|nil=>exactλq q q h=>h|cons zp r J=>
  obtain⟨y,N⟩:=zp;intro H cel F h;simp only[G3];split;.refine J _ _ (n7 F) λx k u=>?_;simp only[n3]at u;cases I:x==y with|true=>simp only[I]at u;obtain rfl:=c0 u;exact F|false=>simp only[I]at u;exact h x k u
  .exact J H cel F h
def W0(T L:Y9)(fz:Y9->Yd Yr):Wd:=⟨λk=>if k=0 then T else L+k,fz⟩
def H0(q:Yg):Hp:=⟨λk=>if k=0 then Y6 (.d q)else Y8,1⟩
def Dg(sc:Yt)(q:Yg)(bv:Yb<|Str×V):St:={li sc bv (H0 q)with a:=Y6 (0,q)}
theorem SF{P:mx}{sc:Yt}{ps:Yb Yg}{args:Yb V}{cargs:Lv}{u:Zk}{s:j8}{T L cd:Y9}{q:Yg}{fz:Y9->Yd Yr}(a5:jT sc ps)(c1:u.scope=sc)(c2:u.locals=L)(c3:u.cells=YK (L+1) sc.names [])(c4:u.globals=dY)(c5:u.builtins=fL)(hL:P.B.objs.size=L)(b0:T<L)(hn:s.heap.Ns L<|bindL u.kindOf (ps.zip cargs) λz=>Y8)(hk:∀b o,P.B.get? b=Y6 o->s.heap.get? b=Y6 o)(hc:∀x c,(x,c)∈YK (L+1) sc.names []->s.heap.IsCell c (bindC u.kindOf (ps.zip cargs) (λz=>Y8) x))(Z:∀a o,fz a=Y6 o->P.B.get? a=Y6 o)(ha:ll (W0 T L fz) 0 args cargs)(hg:s.gens=#[])(ho:s.os=P.b)(ae:P.T=T)(hT:P.B.get? T=Y8)(a6:s.heap.get? T=Y6 (tabObj #[]))(ag:u.code=.ref cd)(ad:CodeHd P.B cd T)(hq:u.qual++pX "<lambda>"=q):lb P [L] (W0 T L fz) (Dg sc q<|ps.zip args).h s/\lm P u (W0 T L fz) (Dg sc q<|ps.zip args) s.heap/\qb sc u:=by
 simp only[jT,j0,v1,fU]at a5;refine bC λn0=>?_;obtain⟨⟨⟨⟨⟨⟨k1,k2⟩,k3⟩,k4⟩,k5⟩,k6⟩,k7⟩:=a5;have I:∀y,u.kindOf y=sc.names.lookup y:=λy=>by unfold Env.kindOf;rw[c1]
 obtain⟨L',a7⟩:∃L',L=L'+1:=⟨L-1,by lia⟩;obtain⟨i1,i2,i3,i4,i5⟩:=K6 (bv:=ps.zip args) (L:=L') sc.names [] [] (H0 q) (λk hk=>by have ak:1<=k:=hk;show(if k=0 then _ else _)=_;exact bk (by exact eZ ak) Y7)<|λx k h=>lz h;refine n0 ?_;have en:L'+1+(H0 q).n=L+1:=by rw[a7];rfl
 replace i3:=en▸i3;replace i5:=en▸i5;have X:∀a,L<=a->P.B.get? a=Y8:=λa h=>gD (by simp[hL,h]);have wl:tI 0 (W0 T L fz)<|W0 T L fz:=.I ..;have r0:(W0 T L fz).c 0=T:=Y7;have O:∀k,k≠0->(W0 T L fz).c k=L+k:=λk h=>d8 h;have a8:∀k,k≠0->L'+1+k=(W0 T L fz).c k:=λk h=>by rw[O k h,a7]
 obtain o0:(kv (ps.zip args) sc.names (H0 q) []).1.o 0=Y6 (.d q):=by rw[i4 0<|by show 0<1;simp];rfl
 have N:∀k,k≠0->k<(kv (ps.zip args) sc.names (H0 q) []).1.n->∃o J,(kv (ps.zip args) sc.names (H0 q) []).1.o k=Y6 o/\s.heap.get? ((W0 T L fz).c k)=Y6 J/\OR (W0 T L fz) (kv (ps.zip args) sc.names (H0 q) []).1.n o J:=λk a9 h=>by refine bo (i5 k (by show 1<=k;exact Nat.one_le_iff_ne_zero.mpr a9) h) λx j1 j2 j3=>?_;refine am (hc x _ j1) λJ e1 Y=>?_;rw[a8 k a9]at e1;refine⟨_,J,j2,e1,?_⟩;have aj:=hV k4 j3;rw[JK (by rw[I,aj];intro q;cases q) k6]at Y;have S:=uJ x ps ha;revert Y S;cases(ps.zip args).lookup x with
  |none=>cases(ps.zip cargs).lookup x with|none=>exactλY z=>.L Y|some _=>exactλz q=>q.elim
  |some v=>cases(ps.zip cargs).lookup x with|none=>exactλz q=>q.elim|some c=>exactλY q=>.cell Y<|VR.mono wl (v8 _) q
 have a4:OR (W0 T L fz) (kv (ps.zip args) sc.names (H0 q) []).1.n (.d q)<|tabObj #[]:=.X ⟨YY,λpos cv e=>lz e⟩;refine⟨⟨hk,λk z=>?_,λk h=>?_,λk z q=>?_,λk z=>?_,λi j z z q=>?_,λk o h=>?_,λa c h=>⟨hk a c<|Z a c h,λq=>?_⟩,λa h=>?_,hg,ho,⟨by show 0<(kv (ps.zip args) sc.names (H0 q) []).1.n;lia,ae.symm⟩⟩,⟨by rw[c1];exact k1,c4,c5,⟨_,by rw[c2];exact hn,λy v h=>?_⟩,λy k h=>?_,λk q' h=>?_⟩,?_⟩
 .by_cases F:k=0;.subst F;exact hT
  .rw[O k F];exact X _<|by exact m7 _ _
 .by_cases F:k=0;.subst F;exact⟨_,a6⟩
  .refine bp (N k F h) λo J z e z=>?_;exact⟨J,e⟩
 .have q':(W0 T L fz).c k=L:=by simpa using q
  by_cases F:k=0;.subst F;rw[r0]at q';simp_all
  .rw[O k F]at q';lia
 .cases hq:fz ((W0 T L fz).c k)with|none=>exact hq|some o=>
   have:=Z _ _ hq;by_cases F:k=0;.subst F;rw[r0,hT]at this;cases this
   .rw[O k F,X _<|by exact m7 _ _]at this;cases this
 .by_cases hi:i=0<;>by_cases hj:j=0;.rw[hi,hj]
  .subst hi;rw[r0,O j hj]at q;lia
  .subst hj;rw[r0,O i hi]at q;lia
  .rw[O i hi,O j hj]at q;lia
 .have a1:k<(kv (ps.zip args) sc.names (H0 q) []).1.n:=by refine ZN.mp λai=>?_;have U:(kv (ps.zip args) sc.names (H0 q) []).1.o k=Y6 o:=h;rw[i1 k ai]at U;cases U
  have U:(kv (ps.zip args) sc.names (H0 q) []).1.o k=Y6 o:=h;by_cases F:k=0;.subst F;rw[o0]at U;obtain rfl:=c0 U;exact⟨a1,_,by exact a6,a4⟩
  .refine bp (N k F a1) λo' J e0 e1 e2=>?_;rw[e0]at U;obtain rfl:=c0 U;exact⟨a1,J,e1,e2⟩
 .have:a=L:=by simpa using q
  subst this;have:=Z a c h;rw[X a<|j7 _]at this;cases this
 .have:a=L:=by simpa using h
  subst this;refine cy hn λo es ep e1 e2 z=>?_;exact⟨X a<|j7 _,o,e1,λvs q=>by rw[e2]at q;cases q⟩
 .obtain⟨p1,p2⟩:=SD (names:=sc.names) h;have S:=uJ y ps ha;rw[p2]at S;refine⟨by rw[I];exact p1,?_⟩;cases h1:(ps.zip cargs).lookup y with|none=>rw[h1]at S;exact S.elim|some c=>rw[h1]at S;refine⟨c,?_,VR.mono wl (v8 _) S⟩;rw[JJ k6,I,p1,h1];rfl
 .obtain⟨p,q'⟩:=i3 y k h;refine⟨p,λz=>?_⟩;rw[c3,q'];have h1:=SE (bv:=ps.zip args) (n:=1) sc.names (H0 q) [] (j7 _) (λx k h=>lz h) y k h;rw[a8 k<|by exact eZ h1]
 .cases h;exact⟨by show 0<(kv (ps.zip args) sc.names (H0 q) []).1.n;lia,hq,cd,ag,by exact ad⟩
 .refine⟨λy h=>by rw[I];exact h,λy h=>by rw[I];exact h,λy h=>by rw[I];exact h,λy h=>by rw[I];exact h,λy h=>?_⟩;rw[I]at h;rw[c3];rcases h with h|h;.exact YU.mp<|uF (n:=L+1) (acc:=[])<|.inr<|zZ h
  .have:=Yx.mp k5 _<|zZ h;simp at this
theorem SG{P:mx}{sc:Yt}{ps:Yb Yg}{args:Yb V}{cargs:Lv}{u:Zk}{s:j8}{T L cd:Y9}{q:Yg}{fz:Y9->Yd Yr}{cx:Sx}{b:S}{body:Yb YW}{v:V}{σ':St}{Q:Flow->j8->Prop}{E:Pv}(Z:jT sc ps)(U:u.scope=sc)(X:u.locals=L)(c3:u.cells=YK (L+1) sc.names [])(c4:u.globals=dY)(c5:u.builtins=fL)(c6:u.frame=Y6 L)(hL:P.B.objs.size=L)(a1:T<L)(hn:s.heap.Ns L<|bindL u.kindOf (ps.zip cargs) λz=>Y8)(hk:∀b o,P.B.get? b=Y6 o->s.heap.get? b=Y6 o)(hc:∀x c,(x,c)∈YK (L+1) sc.names []->s.heap.IsCell c (bindC u.kindOf (ps.zip cargs) (λz=>Y8) x))(Y:∀a o,fz a=Y6 o->P.B.get? a=Y6 o)(ha:ll (W0 T L fz) 0 args cargs)(hg:s.gens=#[])(ho:s.os=P.b)(hT:P.B.get? T=Y8)(a5:s.heap.get? T=Y6 (tabObj #[]))(a4:u.code=.ref cd)(a0:CodeHd P.B cd T)(hq:u.qual++pX "<lambda>"=q)(a2:P.T=T)(C:tv P cx)(N:cx.j<=20)(hb:qk b sc<|.l body)(J:ex b cx (Dg sc q<|ps.zip args)=.c (.b v) σ')(O:σ'.o 0=Y6 (.d q))(hQ:∀W c s' a3,VR W σ'.n v c->(∀b o,P.B.get? b=Y6 o->s'.heap.get? b=Y6 o)->s'.heap.get? T=Y6 (tabObj a3)->s'.os=P.b->s'.gens=#[]->Q (.ret c) s'):Yi P.M (callerA.deeper u) (execs body u) Q E s:=by
 refine bq (SF Z U X c3 c4 c5 hL a1 hn hk hc Y ha hg ho a2 hT a5 a4 a0 hq) λI Lc Sc=>?_;obtain hshk:sc.kind=.function:=Lc.kind▸U▸Y7;obtain F:ue P cx.j [L] (callerA.deeper u) u:=by
  refine⟨⟨by rw[X];exact .head _,Y7,?_,?_,[u],Y7,λe he=>?_⟩,⟨[],Y7⟩,by rw[X];exact c6⟩;.show 4+3+20*cx.j+200<cLine;unfold cLine;exact r5 (r6 (i8 (aY 20 N) _) 200) iu
  .show 1+claimMargin+1+10*cx.j+100<sB;have:1+claimMargin+1+10*20+100<sB:=by decide
   exact r5 (r6 (i8 (aY 10 N) _) 100) this
  .have:e=u:=by simpa using he
   subst this;exact⟨by rw[U,hshk];decide,L,c6,.head _⟩
 refine m8 (hb _ cx C [L] _ u F Sc (W0 T L fz) _ s I Lc<|by rw[J];intro q;cases q) (λf s' zq=>zq.elim λv' a8 aG e st hf=>?_)<|λe s' h=>h.elim;rw[J]at e;injection e with e h_;subst e h_;obtain⟨_,ob,h1,h2⟩:=st.f.o 0 _ O;obtain h0:aG.c 0=T:=st.w.d.d 0 (by show 0<(kv (ps.zip args) sc.names (H0 q) []).1.n;have:=(K6 (bv:=ps.zip args) (L:=0) sc.names [] [] (H0 q) (λk hk=>by have a7:1<=k:=hk;show(if k=0 then _ else _)=_;exact bk (by exact eZ a7) Y7)<|λx k h=>lz h).2.1;have h1:=this;exact h1);rw[h0]at h1;obtain⟨_,rfl,hR⟩:=h2;cases hf with|b hv=>exact hQ aG _ s' _ hv st.f.f h1 st.f.z st.f.gens
end Mine.Lake
namespace Mine.Lake.L09
open PySem PySem.W PyProof.Rows Mine.Lake MineTop
def K7:S:=.d (.h (.j .Eq (.t .Sub "lno"<|.k 1) "firstlno") (.d (.a "continuation"<|.g "C_STRING_FIRST_LINE") .g)<|.d (.a "continuation"<|.g "C_STRING_NEXT_LINES") .g) .g
def Gn:S:=.d (.l "self" "continuation" "continuation")<|.d (.i<|.j .Eq (.j .Eq "continuation"<|.g "C_NONE")<|.j .Eq (.q "goodlines"<|.B<|.k 1) "lno")<|.d (.h (.j .NotEq (.q "goodlines"<|.B<|.k 1) "lno") (.d (.j<|.n "push_good"<|jm "lno") .g) .g) .g
def AK:S:=.d (.a "i"<|jq "i" 1) .g
def K8:S:=.d (.h (.j .Eq "ch"<|.h "#") (.d (.a "i"<|.m "code" "find"<|.d (.h "\n")<|jm "i")<|.d (.i<|.j .GtE "i"<|.k 0)<|.d .k .g) .g)<|.d (.i<|.j .Eq "ch"<|.h "\\")<|.d (.i<|.j .Lt "i" "n")<|.d (.h (.j .Eq (.q "code" "i")<|.h "\n") (.d (.a "lno"<|jq "lno" 1)<|.d (.h (.j .Eq (jq "i" 1) "n") (.d (.a "continuation"<|.g "C_BACKSLASH") .g) .g) .g) .g) AK
def K9:S:=.d (.h (.E (.j .NotEq "continuation"<|.g "C_STRING_FIRST_LINE")<|.E (.j .NotEq "continuation"<|.g "C_STRING_NEXT_LINES")<|.j .Gt "level"<|.k 0) (.d (.a "continuation"<|.g "C_BRACKET") .g) .g) Gn
def inB:S:=.d (.a "ch"<|.q "code" "i")<|.d (.a "i"<|jq "i" 1)<|.d (.h (.j .Eq "ch"<|.h "x") (.d .k .g) .g)<|.d (.h (.j .Eq (.z "code" (.t .Sub "i"<|.k 1)<|.t .Add "i" "w") "quote") (.d (.a "i"<|.t .Add "i" "w")<|.d .u .g) .g)<|.d (.h (.j .Eq "ch"<|.h "\n") (.d (.a "lno"<|jq "lno" 1)<|.d (.h (.j .Eq "w"<|.k 0) (.d (.h (.j .Eq "level"<|.k 0) (.d (.j<|.n "push_good"<|jm "lno") .g) .g)<|.d .u .g) .g)<|.d .k .g) .g)<|.d (.h (.j .Eq "ch"<|.h "\\") (.d (.i<|.j .Lt "i" "n")<|.d (.h (.j .Eq (.q "code" "i")<|.h "\n") (.d (.a "lno"<|jq "lno" 1) .g) .g)<|.d (.a "i"<|jq "i" 1)<|.d .k .g) .g) .g
def Kb:S:=.loop 1000 (.j .Lt "i" "n") inB K7
def Kc:S:=.d (.a "firstlno" "lno")<|.d (.a "w"<|.t .Sub (jn "quote")<|.k 1)<|.d (.a "i"<|.t .Add "i" "w")<|.d Kb<|.d .k .g
def Kd:S:=.d (.a "quote" "ch")<|.d (.h (.j .Eq (.z "code" (.t .Sub "i"<|.k 1)<|jq "i" 2)<|.t .Mult "quote"<|.k 3) (.d (.a "quote"<|.t .Mult "quote"<|.k 3) .g) .g) Kc
def Ke:S:=.d (.a "ch"<|.q "code" "i")<|.d (.a "i"<|jq "i" 1)<|.d (.h (.j .Eq "ch"<|.h "x") (.d .k .g) .g)<|.d (.h (.j .Eq "ch"<|.h "\n") (.d (.a "lno"<|jq "lno" 1)<|.d (.h (.j .Eq "level"<|.k 0) (.d (.j<|.n "push_good"<|jm "lno") .g) .g)<|.d .k .g) .g)<|.d (.h (.j .Eq "ch"<|.h "(") (.d (.a "level"<|jq "level" 1)<|.d .k .g) .g)<|.d (.h (.j .Eq "ch"<|.h ")") (.d (.h "level" (.d (.a "level"<|.t .Sub "level"<|.k 1) .g) .g)<|.d .k .g) .g)<|.d (.h (.H (.j .Eq "ch"<|.h "\"")<|.j .Eq "ch"<|.h "'") Kd .g) K8
def Kf:S:=.loop 1000 (.j .Lt "i" "n") Ke .g
def Kg:S:=.d (.a "continuation"<|.g "C_NONE")<|.d (.s "level" "lno"<|.k 0)<|.d (.w "self" "goodlines" "goodlines"<|.r<|.d (.k 0) .l)<|.d (.a "push_good"<|.A "goodlines" "append")<|.d (.q "i" "n"<|.D<|.d (.k 0)<|jm<|jn "code")<|.d Kf K9
def Go:S:=.d (.l "self" "indentwidth" "indentwidth")<|.d (.l "self" "tabwidth" "tabwidth") .g
def Bu(f:Zx):Yb YW:=f.body.casesOn (λl=>l) λq=>[]
def Kh(u:Zx):Yb Yg->Yb (Yg×n4)->Lv->Prop:=lr (λr vs=>U_ u ⟨vs,[]⟩=Zg r) λx q k r vs=>∀a,k (r++[(x,a)])<|vs++[a]
theorem SH{u:Zx}{ps:Yb Yg}:∀{r:Yb<|Str×n4}{vs:Lv},Kh u ps r vs->∀cs:Lv,cs.length=ps.length->U_ u ⟨vs++cs,[]⟩=Zg (r++ps.zip cs):=by induction ps with|nil=>intro r vs h cs e;obtain rfl:=fN e;rw[eY];exact h.trans<|by simp|cons x ps F=>intro r vs h cs e;cases cs with|nil=>cases e|cons a cs=>have:=F (h a) cs<|pS e;rw[v5,v5]at this;exact this
theorem row{K:L_}{a:YF}{o:Yr}{u:Zx}{sc:Yt}{ps:Yb Yg}{l:Yb YW}{b:S}{c:YF}{oc:Yr}{vs:Yp n4}{t:b_}(h1:K.lookup a=Y6 o:=by rfl)(h2:o.data=.func u:=by rfl)(h3:u.scope=sc:=by rfl)(h4:u.body=.stmts l:=by rfl)(h5:u.closure=[]:=by rfl)(T:u.globals=dY:=by rfl)(N:u.builtins=fL:=by rfl)(L:u.code=.ref c:=by rfl)(O:K.lookup c=Y6 oc:=by rfl)(I:oc.data=.fields vs:=by rfl)(F:vs[1]?=Y6 (.str u.qualname t):=by rfl)(J:jT sc ps&&(G2 b sc<|.l l).b:=by kernel_rfl)(hp:Kh u ps [] []:=by((repeat intro _);rfl)):xO K a sc ps b:=have h:=YE.mp J
 ⟨l,⟨u,⟨o,h1,h2⟩,h3,h4,h5,T,N,⟨c,oc,vs,t,L,O,I,F⟩,h.1,SH hp⟩,(G2 b sc<|.l l).h h.2⟩
def wt(i:Y9):Yb YW:=Bu<|vu<|ni (cls<|ni TB 22) i
def wu(i:Y9):Yt:=(vu<|ni (cls<|ni TB 22) i).scope
def Ki:Yt:=wu 0
theorem SI(p:dE):xO (K p) 172 Ki ["self","indentwidth","tabwidth"] Go:=row (l:=wt 0)
def Kj:S:=.d (.i<|.H (.j .Eq (jn "s")<|.k 0)<|.j .Eq (.q "s"<|.B<|.k 1)<|.h "\n")<|.d (.l "self" "code" "s")<|.d (.l "self" "study_level"<|.k 0) .g
def Kk:Yt:=wu 1
theorem SJ(p:dE):xO (K p) 179 Kk ["self","s"] Kj:=row (l:=wt 1)
def Kl:S:=.d (.i<|.H (.j .Eq "lo"<|.k 0)<|.j .Eq (.q (jp "code")<|.t .Sub "lo"<|.k 1)<|.h "\n")<|.d (.h (.j .Gt "lo"<|.k 0) (.d (.l "self" "code"<|.z (jp "code") "lo" .none) .g) .g) .g
def Km:Yt:=wu 3
theorem SK(p:dE):xO (K p) 193 Km ["self","lo"] Kl:=row (l:=wt 3)
def uP:S:=.d (.h (.j .GtE (jp "study_level")<|.k 1) (.d .B .g) .g)<|.d (.l "self" "study_level"<|.k 1)<|.d (.a "code"<|jp "code")<|.C "code" "trans" [("xxxxxxxx","x"),("xxxx","x"),("xx","x"),("xx","x"),("\nx","\n")] Kg
def Ko:Yt:=wu 4
theorem SM(p:dE):xO (K p) 200 Ko ["self"] uP:=row (l:=wt 4)
def Gp:S:=.d (.j<|.m "self" "_study1" .l)<|.d (.m<|jp "continuation") .g
def Kp:Yt:=wu 5
theorem SN(p:dE):xO (K p) 207 Kp ["self"] Gp:=row (l:=wt 5)
def Kq:S:=.d (.a "p"<|jq (.m "code" "rfind"<|.d (.h "\n")<|.d (.k 0)<|jm<|.t .Sub "p"<|.k 1) 1) .g
def Kr:S:=.d (.a "i"<|.t .Sub "i"<|.k 1) .g
def SO:S:=.d (.i "p")<|.d (.a "q" "p")<|.d (.p "nothing" (.n (.g "range")<|.d (.q "goodlines"<|.t .Sub "i"<|.k 1)<|jm<|.q "goodlines" "i") Kq)<|.d (.h (.n (.g "_junkre")<|.d "code"<|jm "p") Kr<|.d .u .g) .g
def Ks:S:=.loop 1000 "i" SO .g
def Kt:S:=.loop 1000 (.E (.j .GtE "i" "p")<|.j .In (.q "code" "i")<|.h " \t\n") Kr .g
def SP:S:=.d (.a "newp"<|.m "m" "end" .l)<|.d (.a "i"<|.t .Sub "newp"<|.k 1)<|.d Kt<|.d (.h (.j .GtE "i" "p") (.d (.a "lastch"<|.q "code" "i") .g) .g)<|.d (.a "p" "newp")<|.d (.h (.j .GtE "p" "q") (.d .u .g) .g) .g
def Dh:S:=.d (.a "ch"<|.q "code" "p")<|.d (.h (.j .In "ch"<|.h "([{") (.d (.j<|.n "push_stack"<|jm "p")<|.d (.j<|.m "bracketing" "append"<|jm<|.D<|.d "p"<|jm<|jn "stack")<|.d (.a "lastch" "ch")<|.d (.a "p"<|jq "p" 1)<|.d .k .g) .g)<|.d (.h (.j .In "ch"<|.h ")]}") (.d (.h "stack" (.d (.t "stack") .g) .g)<|.d (.a "lastch" "ch")<|.d (.a "p"<|jq "p" 1)<|.d (.j<|.m "bracketing" "append"<|jm<|.D<|.d "p"<|jm<|jn "stack")<|.d .k .g) .g)<|.d (.h (.H (.j .Eq "ch"<|.h "\"")<|.j .Eq "ch"<|.h "'") (.d (.j<|.m "bracketing" "append"<|jm<|.D<|.d "p"<|jm<|jq (jn "stack") 1)<|.d (.a "lastch" "ch")<|.d (.a "p"<|.m (.n (.g "_match_stringre")<|.d "code"<|.d "p"<|jm "q") "end" .l)<|.d (.j<|.m "bracketing" "append"<|jm<|.D<|.d "p"<|jm<|jn "stack")<|.d .k .g) .g)<|.d (.h (.j .Eq "ch"<|.h "#") (.d (.j<|.m "bracketing" "append"<|jm<|.D<|.d "p"<|jm<|jq (jn "stack") 1)<|.d (.a "p"<|jq (.m "code" "find"<|.d (.h "\n")<|.d "p"<|jm "q") 1)<|.d (.i<|.j .Gt "p"<|.k 0)<|.d (.j<|.m "bracketing" "append"<|jm<|.D<|.d "p"<|jm<|jn "stack")<|.d .k .g) .g)<|.d (.i<|.j .Eq "ch"<|.h "\\")<|.d (.a "p"<|jq "p" 1)<|.d (.i<|.j .Lt "p" "q")<|.d (.h (.j .NotEq (.q "code" "p")<|.h "\n") (.d (.a "lastch"<|.t .Add "ch"<|.q "code" "p") .g) .g)<|.d (.a "p"<|jq "p" 1) .g
def Ku:S:=.d (.a "m"<|.n (.g "_chew_ordinaryre")<|.d "code"<|.d "p"<|jm "q")<|.d (.h "m" SP .g) Dh
def Kv:S:=.loop 1000 (.j .Lt "p" "q") Ku .g
def Kw:S:=.d (.l "self" "lastch" "lastch")<|.d (.l "self" "lastopenbracketpos"<|.K "stack" (.q "stack"<|.B<|.k 1) .none)<|.d (.l "self" "stmt_bracketing"<|.n (.g "tuple")<|jm "bracketing") .g
def Gq:S:=.d (.r "self" "stmt_start" "self" "stmt_end"<|.D<|.d "p"<|jm "q")<|.d (.a "lastch"<|.h "")<|.d (.z "stack"<|.r .l)<|.d (.a "push_stack"<|.A "stack" "append")<|.d (.z "bracketing"<|.r<|jm<|.D<|.d "p"<|.d (.k 0) .l)<|.d Kv Kw
def Ky:S:=.d (.h (.j .Eq "i"<|.k 0) (.d (.i<|.j .Eq "p"<|.k 0)<|.d (.a "q" "p") .g) .g) Gq
def Kz:S:=.d (.q "code" "goodlines"<|.D<|.d (jp "code")<|jm<|jp "goodlines")<|.d (.a "i"<|.t .Sub (jn "goodlines")<|.k 1)<|.d (.a "p"<|jn "code")<|.d Ks Ky
def Gu:S:=.d (.h (.j .GtE (jp "study_level")<|.k 2) (.d .B .g) .g)<|.d (.j<|.m "self" "_study1" .l)<|.d (.l "self" "study_level"<|.k 2) Kz
def KA:Yt:=wu 6
theorem SQ(p:dE):xO (K p) 214 KA ["self"] Gu:=row (l:=wt 6)
def SR:S:=.d (.a "m"<|.n (.g "_itemre")<|.d "code"<|jm "j")<|.d (.h "m" (.d (.a "j"<|.t .Sub (.m "m" "end" .l)<|.k 1)<|.d (.a "extra"<|.k 0)<|.d .u .g)<|.d (.s "i" "j"<|jq (.m "code" "find"<|.d (.h "\n")<|jm "j") 1) .g) .g
def Gv:S:=.d (.a "j"<|jq "j" 1) .g
def SS:S:=.d (.s "j" "i" "origi")<|.d (.loop 1000 (.j .In (.q "code" "j")<|.h " \t") Gv .g)<|.d (.a "extra"<|jp "indentwidth") .g
def KB:S:=.loop 1000 (.j .Lt "j" "n") SR SS
def Gw:S:=.d (.i<|.j .Eq (jp "continuation")<|.g "C_BRACKET")<|.d (.a "j"<|jp "lastopenbracketpos")<|.d (.a "code"<|jp "code")<|.d (.a "n"<|jn "code")<|.d (.s "origi" "i"<|jq (.m "code" "rfind"<|.d (.h "\n")<|.d (.k 0)<|jm "j") 1)<|.d (.a "j"<|jq "j" 1)<|.d KB<|.d (.m<|.t .Add (.n (.g "len")<|jm<|.m (.z "code" "i" "j") "expandtabs"<|jm<|jp "tabwidth") "extra") .g
def KC:S:=.d (.j<|.m "self" "_study2" .l) Gw
def KD:Yt:=wu 7
theorem ST(p:dE):xO (K p) 221 KD ["self"] KC:=row (l:=wt 7)
def KF:S:=.loop 1000 (.j .In (.q "code" "i")<|.h " \t") AK .g
def KG:X:=.E (.j .Eq "level"<|.k 0)<|.E (.j .Eq "ch"<|.h "=")<|.E (.H (.j .Eq "i"<|.k 0)<|.j .NotIn (.q "code"<|.t .Sub "i"<|.k 1)<|.h "=<>!")<|.j .NotEq (.q "code"<|jq "i" 1)<|.h "="
def SU:S:=.d (.h KG (.d (.a "found"<|.k 1)<|.d .u .g) AK) .g
def SV:S:=.d (.h (.j .Eq "ch"<|.h "#") (.d .u .g) SU) .g
def SW:S:=.d (.h (.H (.j .Eq "ch"<|.h "\"")<|.j .Eq "ch"<|.h "'") (.d (.a "i"<|.m (.n (.g "_match_stringre")<|.d "code"<|.d "i"<|jm "endpos") "end" .l) .g) SV) .g
def SY:S:=.d (.h (.j .In "ch"<|.h ")]}") (.d (.h "level" (.d (.a "level"<|.t .Sub "level"<|.k 1) .g) .g) AK) SW) .g
def SZ:S:=.d (.a "ch"<|.q "code" "i")<|.d (.h (.j .In "ch"<|.h "([{") (.d (.a "level"<|jq "level" 1) AK) SY) .g
def KH:S:=.loop 1000 (.j .Lt "i" "endpos") SZ .g
def KI:S:=.loop 1000 (.j .NotIn (.q "code" "i")<|.h " \t\n") AK .g
def KJ:S:=.d (.m<|jq (.n (.g "len")<|jm<|.m (.z "code" (jp "stmt_start") "i") "expandtabs"<|jm<|jp "tabwidth") 1) .g
def KK:S:=.d (.h (.J "found") (.d (.a "i" "startpos")<|.d KI .g) .g) KJ
def T0:S:=.d (.h "found" (.d (.a "i"<|jq "i" 1)<|.d (.a "found"<|.j .Is (.m (.g "_twin_re_7") "match"<|jm<|.z "code" "i" "endpos") .none) .g) .g) KK
def KL:S:=.d (.i<|.j .Eq (jp "continuation")<|.g "C_BACKSLASH")<|.d (.a "code"<|jp "code")<|.d (.a "i"<|jp "stmt_start")<|.d KF<|.d (.a "startpos" "i")<|.d (.a "endpos"<|jq (.m "code" "find"<|.d (.h "\n")<|jm "startpos") 1)<|.d (.s "found" "level"<|.k 0)<|.d KH T0
def KM:S:=.d (.j<|.m "self" "_study2" .l) KL
def KN:Yt:=wu 9
theorem T1(p:dE):xO (K p) 235 KN ["self"] KM:=row (l:=wt 9)
def KO:S:=.loop 1000 (.E (.j .Lt "j" "n")<|.j .In (.q "code" "j")<|.h " \t") Gv .g
def KP:S:=.d (.q "i" "n"<|.D<|.d (jp "stmt_start")<|jm<|jp "stmt_end")<|.d (.a "j" "i")<|.d (.a "code"<|jp "code")<|.d KO<|.d (.m<|.z "code" "i" "j") .g
def KQ:S:=.d (.j<|.m "self" "_study2" .l) KP
def KR:Yt:=wu 10
theorem T2(p:dE):xO (K p) 242 KR ["self"] KQ:=row (l:=wt 10)
def KS:S:=.d (.j<|.m "self" "_study2" .l)<|.d (.m<|.j .IsNot (.n (.g "_closere")<|.d (jp "code")<|jm<|jp "stmt_start") .none) .g
def KT:Yt:=wu 12
theorem T3(p:dE):xO (K p) 256 KT ["self"] KS:=row (l:=wt 12)
def KU:S:=.d (.j<|.m "self" "_study2" .l)<|.d (.m<|jp "stmt_bracketing") .g
def KV:Yt:=wu 13
theorem T4(p:dE):xO (K p) 263 KV ["self"] KU:=row (l:=wt 13)
def Gx:X:=.E "m"<|.J<|.n "is_char_in_string"<|jm<|.m "m" "start" .l
def T5:S:=.d (.a "i"<|.m "code" "rfind"<|.d (.h ":\n")<|.d (.k 0)<|jm "limit")<|.d (.h (.j .Lt "i"<|.k 0) (.d .u .g) .g)<|.d (.a "i"<|jq (.m "code" "rfind"<|.d (.h "\n")<|.d (.k 0)<|jm "i") 1)<|.d (.a "m"<|.n (.g "_synchre")<|.d "code"<|.d "i"<|jm "limit")<|.d (.h Gx (.d (.a "pos"<|.m "m" "start" .l)<|.d .u .g) .g)<|.d (.a "limit" "i") .g
def KW:S:=.p "tries" (.n (.g "range")<|.d (.k 5) .l) T5
def KY:S:=.d (.a "m"<|.n (.g "_synchre")<|jm "code")<|.d (.h Gx (.d (.a "pos"<|.m "m" "start" .l) .g) .g)<|.d (.m "pos") .g
def T6:S:=.d (.q "s" "i"<|.m "m" "span" .l)<|.d (.h (.J<|.n "is_char_in_string"<|jm "s") (.d (.a "pos" "s") .g) .g) .g
def KZ:S:=.loop 1000 (.G "m"<|.n (.g "_synchre")<|.d "code"<|jm "i") T6 .g
def La:S:=.d (.q "code" "pos"<|.D<|.d (jp "code")<|.d .none .l)<|.d (.a "limit"<|jn "code")<|.d KW<|.d (.h (.j .Is "pos" .none) KY .g)<|.d (.a "i"<|jq "pos" 1)<|.d KZ<|.d (.m "pos") .g
def Lb:Yt:=wu 2
theorem T7(p:dE):xO (K p) 186 Lb ["self","is_char_in_string"] La:=row (l:=wt 2)
def Ld:S:=.d (.j<|.m "self" "_study1" .l)<|.d (.a "goodlines"<|jp "goodlines")<|.d (.m<|.t .Sub (.q "goodlines"<|.B<|.k 1)<|.q "goodlines"<|.B<|.k 2) .g
def Le:Yt:=wu 8
theorem T8(p:dE):xO (K p) 228 Le ["self"] Ld:=row (l:=wt 8)
def Gy:X:=jn "script"
def GA:X:=.u (.q (.F "tokens")<|.t .Mod "x"<|.k 24) "x" (.z "script" .none<|.k 18)<|.C Ye
def GB:S:=.d (.v "tokens"<|.r<|.d (.h "def f:\n")<|.d (.h "else\n")<|.d (.h " try: ")<|.d (.h "\n")<|.d (.h ":\n")<|.d (.h "'")<|.d (.h "\"")<|.d (.h "'''")<|.d (.h "\"\"\"\n")<|.d (.h "(")<|.d (.h "[")<|.d (.h ")")<|.d (.h "]\n")<|.d (.h "\\")<|.d (.h "\\\n")<|.d (.h "#")<|.d (.h " ")<|.d (.h "x")<|.d (.h " = ")<|.d (.h "\treturn\n")<|.d (.h "{\n")<|.d (.h "}")<|.d (.h "#\n\n")<|.d (.h "a\n") .l)<|.d (.a "text"<|.q (.r<|.d (.h "a\nelse\n")<|.d (.h "")<|.d (.h "")<|.d (.h "") .l)<|.t .Mod (.t .FloorDiv Gy<|.k 4)<|.k 4)<|.d (.A "text"<|.m (.h "") "join"<|.d GA .l)<|.d (.m<|.t .Add "text"<|.q (.r<|.d (.h "try:\n")<|.d (.h "\n")<|.d (.h "x\n")<|.d (.h "'''\n") .l)<|.t .Mod Gy<|.k 4) .g
def pj:Yt:=(vu<|ni TB 24).scope
theorem T9(p:dE):xO (K p) 275 pj ["script"] GB:=row (l:=Bu<|vu<|ni TB 24)
def Lf:S:=.d (.a "bare"<|.m "row" "lstrip"<|.d (.h " \t") .l)<|.d (.a "end"<|.k 0)<|.d (.loop 1000 (.m (.q "bare" "end") "isalnum" .l) (.d (.A "end"<|.k 1) .g) .g)<|.d (.m<|.z "bare" .none "end") .g
def Lg:Yt:=(vu<|ni TB 25).scope
theorem Ta(p:dE):xO (K p) 282 Lg ["row"] Lf:=row (l:=Bu<|vu<|ni TB 25)
def Tb:S:=.h (.j .NotEq "groups"<|.r .l) (.d (.j<|.m (.q "groups"<|.B<|.k 1) "append"<|jm "k") .g) .g
def AL:S:=.h (.j .Eq (.z (.q "rows" "k") (.B<|.k 2) .none)<|.h ":\n") (.d (.j<|.m "groups" "append"<|.d (.I .l) .l) .g) .g
def Lh:S:=.h (.j .In (.n (.g "_law_first_word")<|jm<|.q "rows" "k")<|.r<|.d (.h "def")<|.d (.h "else")<|.d (.h "try")<|.d (.h "return") .l) (.d (.j<|.m "every" "append"<|jm "k")<|.d Tb .g) .g
def xt:X:=.u "group" "group" (.z "groups" (.B<|.k 5) .none)<|.E (.j .NotEq "group"<|.r .l)<|.j .In (.q "group"<|.k 0)<|.F "good"
def Tc:X:=.u "k" "k" "every"<|.j .In "k"<|.F "good"
def Li:S:=.d (.h (.j .NotEq xt<|.r .l) (.d (.m<|.q Tc<|.B<|.k 1) .g) .g)<|.d (.h (.E (.j .NotEq "every"<|.r .l)<|.j .In (.q "every"<|.k 0)<|.F "good") (.d (.m<|.q "every"<|.k 0) .g) .g)<|.d (.m .none) .g
def GC:S:=.d (.z "every"<|.r .l)<|.d (.z "groups"<|.r .l)<|.d (.p "k" (.n (.g "range")<|.d "base"<|jm<|jn "rows")<|.d AL<|.d Lh .g) Li
def px:Yt:=(vu<|ni TB 26).scope
theorem Td(p:dE):xO (K p) 287 px ["rows","base","good"] GC:=row (l:=Bu<|vu<|ni TB 26)
def Di:S:=.d (.z "told"<|.r<|.d (.m "parser" "get_continuation_type" .l)<|.d (.m "parser" "is_block_closer" .l)<|.d (.m "parser" "get_base_indent_string" .l)<|.d (.A "parser" "lastch")<|.d (.m "parser" "get_num_lines_in_stmt" .l)<|.d (.w (.D<|.d (.t .Add "place"<|.F "start")<|jm "depth") "place" "depth"<|.m "parser" "get_last_stmt_bracketing" .l)<|.d (.t .Add (.A "parser" "stmt_start")<|.F "start")<|jm<|.t .Add (.A "parser" "stmt_end")<|.F "start")<|.d (.h (.j .Eq (.q "told"<|.k 0)<|.g "C_BRACKET") (.d (.j<|.m "told" "append"<|jm<|.m "parser" "compute_bracket_indent" .l) .g) .g)<|.d (.h (.j .Eq (.q "told"<|.k 0)<|.g "C_BACKSLASH") (.d (.j<|.m "told" "append"<|jm<|.m "parser" "compute_backslash_indent" .l) .g) .g)<|.d (.m "told") .g
def qm:Yt:=(vu<|ni TB 27).scope
theorem Te(p:dE):xO (K p) 292 qm ["parser","start"] Di:=row (l:=Bu<|vu<|ni TB 27)
def Lj:X:=.j .NotIn (.t .Add (.F "base")<|.m (.z (.F "part") .none "place") "count"<|.d (.h "\n") .l)<|.F "good"
def Lk:S:=.d (.a "number"<|.n (.g "_law_number")<|.d "rows"<|.d (.F "base")<|jm<|.F "good")<|.d (.h (.j .Is "number" .none) (.d (.h (.j .IsNot "found" .none) (.d (.m<|.C Yc) .g) .g) .g)<|.d (.h (.j .NotEq "found"<|.n (.g "len")<|jm<|.m (.h "") "join"<|jm<|.z "rows" (.F "base") "number") (.d (.m<|.C Yc) .g) .g) .g)<|.d (.h (.H (.j .IsNot "found" .none)<|.j .Eq (.F "base")<|.k 0) (.d .u .g) .g) .g
def GD:S:=.d (.v "part"<|.m (.h "") "join"<|jm<|.z "rows" (.B "size") .none)<|.d (.v "base"<|.n (.g "max")<|.d (.k 0)<|jm<|.t .Sub (jn "rows") "size")<|.d (.j<|.m "left" "set_code"<|jm<|.F "part")<|.d (.a "found"<|.m "left" "find_good_parse_start"<|.d (.L ["place"] Lj) .l) Lk
def Ll:S:=.d (.a "start"<|.n (.g "len")<|jm<|.m (.h "") "join"<|jm<|.z "rows" .none<|.F "first")<|.d (.h (.j .NotEq (.n (.g "_law_all")<|.d "left"<|jm "start") "due") (.d (.m<|.C Yc) .g) .g)<|.d (.m<|.j .Eq (.u (.t .Add (.F "first") "line") "line" (.A "left" "goodlines")<|.C Ye)<|.u "line" "line" (.F "good")<|.j .GtE "line"<|.F "first") .g
def Dj:S:=.d (.j<|.m "left" "set_lo"<|.d (.H "found"<|.k 0) .l)<|.d (.v "first"<|.H "number"<|.k 0) Ll
def Tf:S:=.d (.a "left"<|.n (.g "Parser")<|.d (.k 4)<|.d (.k 8) .l)<|.d (.v "base"<|.k 0)<|.d (.a "found" .none)<|.d (.a "number" .none)<|.d (.p "size" (.r<|.d (.k 2)<|.d (.k 5)<|jm<|jn "rows") GD) Dj
def Dk:S:=.d (.a "text"<|.n (.g "_law_text")<|jm "script")<|.d (.a "rows"<|.u (.t .Add "row"<|.h "\n") "row" (.z (.m "text" "split"<|.d (.h "\n") .l) .none<|.B<|.k 1)<|.C Ye)<|.d (.a "whole"<|.n (.g "Parser")<|.d (.k 4)<|.d (.k 8) .l)<|.d (.j<|.m "whole" "set_code"<|jm "text")<|.d (.a "due"<|.n (.g "_law_all")<|.d "whole"<|.d (.k 0) .l)<|.d (.v "good"<|.A "whole" "goodlines") Tf
def GE:Yt:=(vu<|ni TB 28).scope
def zn:Yb<|Str×V:=[("len",.m<|.builtin "len"),("range",.m<|.type "range"),("tuple",.m<|.type "tuple"),("Parser",.m<|.ref 266),("_law_text",.m<|.ref 275),("_law_first_word",.m<|.ref 282),("_law_number",.m<|.ref 287),("_law_all",.m<|.ref 292),("_synchre",.m<|.ref 78),("max",.m<|.builtin "max"),("trans",.m<|.ref 108),("_junkre",.m<|.ref 79),("_match_stringre",.m<|.ref 80),("_itemre",.m<|.ref 81),("_closere",.m<|.ref 82),("_chew_ordinaryre",.m<|.ref 83),("_twin_re_7",.m<|.ref 73),("C_NONE",.d 0),("C_BACKSLASH",.d 1),("C_STRING_FIRST_LINE",.d 2),("C_STRING_NEXT_LINES",.d 3),("C_BRACKET",.d 4)]
def Dl(x:Yg):Yd V:=zn.lookup x
def mw:Yp Y9:=ix.toArray
def kf:Yp Y9:=iy.toArray
def pk:Yp Y9:=jc.toArray
def pn:Yp Y9:=jd.toArray
def lk:Yp Y9:=je.toArray
def zo:Yb<|Addr×Yp Y9:=[(79,mw),(80,kf),(81,pk),(82,pn),(83,lk)]
def zr(a:YF):Yd<|Array Y9:=zo.lookup a
def ko(c:Y9):Y9:=if c=40\/c=123\/c=91 then 40 else if c=41\/c=125\/c=93 then 41 else if c=34\/c=39\/c=92\/c=10\/c=35 then c else 120
def th:Yb<|Str×YF:=[("set_code",179),("find_good_parse_start",186),("set_lo",193),("_study1",200),("get_continuation_type",207),("_study2",214),("compute_bracket_indent",221),("get_num_lines_in_stmt",228),("compute_backslash_indent",235),("get_base_indent_string",242),("is_block_closer",256),("get_last_stmt_bracketing",263)]
def ty:Yb Yg:=["code","study_level","indentwidth","tabwidth","goodlines","continuation","stmt_start","stmt_end","lastch","lastopenbracketpos","stmt_bracketing"]
def qd(p:dE):tS:={K:=K p,C:=266,b:=th,a:=ty,h:=Dl,f:=108,g:=100,d:=ko,c:=78,e:=zr}
def mq:wr:=[(172,Ki,["self","indentwidth","tabwidth"],Go),(179,Kk,["self","s"],Kj),(186,Lb,["self","is_char_in_string"],La),(193,Km,["self","lo"],Kl),(200,Ko,["self"],uP),(207,Kp,["self"],Gp),(214,KA,["self"],Gu),(221,KD,["self"],KC),(228,Le,["self"],Ld),(235,KN,["self"],KM),(242,KR,["self"],KQ),(256,KT,["self"],KS),(263,KV,["self"],KU),(275,pj,["script"],GB),(282,Lg,["row"],Lf),(287,px,["rows","base","good"],GC),(292,qm,["parser","start"],Di)]
def Tg(p:dE):Yp gM:=match(K p).lookup 108 with|some ⟨_,_,.dict es _,_⟩=>es|_=>#[]
def Th(es:Yp gM):Yj:=es.toList.all λe=>match e.key with|.int k _=>e.hash==hashInt k|_=>Yc
theorem Ti{es:Yp gM}(h:Th es):IntKeys es:=by intro e u;have:=Yx.mp h e<|Array.mem_toList_iff.mpr u;revert this;cases hk:e.key<;>intro this<;>first|exact⟨_,_,Y7,gL this⟩|exact pz this
def Lm(f:Y9->Y9)(es:Yp gM)(c:Y9):Yj:=match findBy pA es (c:Yh)with|some<|.int i _=>i==(f c:Y9)|_=>Yc
theorem Tj{f:Y9->Y9}{es:Yp gM}(h:(pZ 128).all<|Lm f es):∀c:Y9,c<128->∃t,findBy pA es (c:Yh)=Y6 (.int (f c:Y9) t):=by intro c hc;have:=Yx.mp h c<|List.mem_range.mpr hc;unfold Lm at this;revert this;cases findBy pA es (c:Yh)with|none=>exactλh=>pz h|some v=>cases v with|int i t=>exactλh=>⟨t,by exact zJ5 (gL h) Y7⟩|_=>exactλh=>pz h
theorem Lo:∀c,c<128->ko c<128:=jg
theorem Tk(p:dE):sw (K p) 100 108 ko:=⟨⟨_,Tg p,_,Y7,Y7,Y7,Ti<|by kernel_rfl,Tj<|by kernel_rfl⟩,by rfl,by rfl,by rfl,Lo⟩
section
variable{P:mx}{pv:lG}{loose:Yb Yg}{mg mb:Yg->Yd n4}{K:L_}
theorem Tl(X:K.In P.B)(T:TopRead pv loose mg mb P.B){x:Yg}{v:n4}(e:nsIn K dY x=Y6 Y8)(hv:bootBuiltins x=Y6 v)(u:x≠"__name__"):∃c mg mb,P.B.Ns dY mg/\P.B.Ns fL mb/\(mg x=Y6 c\/mg x=Y8/\mb x=Y6 c)/\c=v:=⟨v,mg,mb,T.g,T.b,.inr ⟨mg_none_of X T.g e,(T.builtins x u).trans hv⟩,Y7⟩
theorem Lp(X:K.In P.B)(T:TopRead pv loose mg mb P.B){x:Yg}{v:n4}(e:nsIn K dY x=Y6 (Y6 v)):∃c mg mb,P.B.Ns dY mg/\P.B.Ns fL mb/\(mg x=Y6 c\/mg x=Y8/\mb x=Y6 c)/\c=v:=⟨v,mg,mb,T.g,T.b,.inl<|mg_of X T.g e,Y7⟩
def Dm(P:mx)(x:Yg)(v:V):Prop:=∃c mg mb,P.B.Ns dY mg/\P.B.Ns fL mb/\(mg x=Y6 c\/mg x=Y8/\mb x=Y6 c)/\∀W n,VR W n v c
theorem Lq{x:Yg}{v:n4}(h:∃c mg mb,P.B.Ns dY mg/\P.B.Ns fL mb/\(mg x=Y6 c\/mg x=Y8/\mb x=Y6 c)/\c=v):Dm P x<|.m v:=by refine cj h λc mg mb a b d u=>?_;subst u;exact⟨c,mg,mb,a,b,d,λq q=>.jr _⟩
theorem Tm{x:Yg}{i:Yh}{t:b_}(h:∃c mg mb,P.B.Ns dY mg/\P.B.Ns fL mb/\(mg x=Y6 c\/mg x=Y8/\mb x=Y6 c)/\c=.int i t):Dm P x<|.d i:=by refine cj h λc mg mb a b d u=>?_;subst u;exact⟨_,mg,mb,a,b,d,λq q=>.cr _ _⟩
end
section
variable{P:mx}{pv:lG}{loose:Yb Yg}{mg mb:Yg->Yd n4}
theorem fc{α:Type}{p:α->Prop}{a:α}{l:Yb α}(h:p a)(t:∀q∈l,p q):∀q∈a::l,p q:=g'.mpr ⟨h,t⟩
theorem fn{α:Type}{p:α->Prop}:∀q∈([]:Yb α),p q:=λz h=>tq h
theorem Tn(p:dE)(X:(K p).In P.B)(T:TopRead pv loose mg mb P.B):∀q∈zn,Dm P q.1 q.2:=by
 repeat(refine fc (by first|exact Lq<|Tl X T (by rfl) (by rfl) iu|exact Lq<|Lp X T<|by rfl|exact Tm<|Lp X T<|by rfl) ?_)
 exact fn
theorem To(p:dE)(X:(K p).In P.B)(T:TopRead pv loose mg mb P.B)(x:Yg)(v:V)(h:Dl x=Y6 v):Dm P x v:=Tn p X T (x,v)<|qX h
theorem Tp(p:dE):∀q∈th,n_ (K p) (.ref 266) q.1=Y6 (Y6<|.ref q.2)/\typeIn (K p) (.ref q.2)=Y6 (.type "function"):=by
 repeat(refine fc ⟨by rfl,by rfl⟩ ?_)
 exact fn
theorem Tq(p:dE):∀f∈ty,n_ (K p) (.ref 266) f=Y6 Y8:=by
 repeat(refine fc (by rfl) ?_)
 exact fn
theorem Tr(p:dE)(X:(K p).In P.B):∃pt,P.B.get? 78=Y6 (Mine.Lake.Re.ph "re.Pattern.search" pt)/\Mine.Lake.Re.ox P.B pt Mine.Lake.Re.tP:=⟨43,X _ _<|by rfl,⟨_,_,_,X _ _<|by rfl,by rfl,by rfl,by rfl,by rfl,by rfl,_,_,_,X _ _<|by rfl,by rfl,by first|rfl|kernel_rfl⟩⟩
set_option tactic.hygienic true in theorem Lr{β:Type}{a:Addr}{b:β}:∀{l:List<|Addr×β},l.lookup a=some b->(a,b)∈l:=by intro F;induction F with|nil=>exactλh=>lz h|cons zp l u=>
  obtain⟨c,d⟩:=zp;intro h;simp only[lW]at h;split at h;.rename_i q;obtain rfl:=c0 h;simp only[ZC.mp q];exact .head _
  .exact .tail _<|u h
theorem Ts(p:dE)(X:(K p).In P.B):∀q∈zo,∃pt,P.B.get? q.1=Y6 (Mine.Lake.Re.ph "re.Pattern.match" pt)/\Mine.Lake.Re.ox P.B pt q.2:=by
 repeat(refine fc ⟨_,X _ _<|by rfl,⟨_,_,_,X _ _<|by rfl,by rfl,by rfl,by rfl,by rfl,by rfl,_,_,_,X _ _<|by rfl,by rfl,by first|rfl|kernel_rfl⟩⟩ ?_)
 exact fn
theorem Tt(p:dE)(X:(K p).In P.B)(a:YF)(code:Yp Y9)(h:AI a=Y6 code):Mine.Lake.Re.ox P.B a code/\∃o,P.B.get? a=Y6 o/\o.cls=.type "re.Pattern"/\o.dict=Y8:=by
 by_cases e:a=73;.replace h:=bi e h;obtain rfl:=c0 h;subst e;exact⟨⟨_,_,_,X _ _<|by rfl,by rfl,by rfl,by rfl,by rfl,by rfl,_,_,_,X _ _<|by rfl,by rfl,by first|rfl|kernel_rfl⟩,_,X _ _<|by rfl,by rfl,by rfl⟩
 .replace h:=bc e h;cases h
theorem Tu(p:dE)(X:(K p).In P.B)(T:TopRead pv loose mg mb P.B)(u:D6 P):tT P<|qd p:=⟨⟨X,by rfl,by rfl,by rfl,by rfl,by rfl,by rfl⟩,Tk p,u,Tr p X,λa code h=>Ts p X (a,code)<|Lr h,Tt p X,λm g h=>Tp p (m,g)<|qX h,λf h=>Tq p f<|by have F:ty.contains f=Ye:=h;simpa using F,To p X T⟩
theorem Tv(p:dE):∀q∈mq,xO (K p) q.1 q.2.1 q.2.2.1 q.2.2.2:=by
 repeat(refine fc (by first|exact SI p|exact SJ p|exact T7 p|exact SK p|exact SM p|exact SN p|exact SQ p|exact ST p|exact T8 p|exact T1 p|exact T2 p|exact T3 p|exact T4 p|exact T9 p|exact Ta p|exact Td p|exact Te p) ?_)
 exact fn
theorem Tw(p:dE):Gl (qd p).K mq:=λa sc ps b h=>Tv p (a,sc,ps,b)<|Lr h
end
def lq:Yg:="law.<locals>.<lambda>"
def nh(ns:Yb Yh):St:=Dg GE lq [("script",.h<|ns.map .d)]
def Ls:Prop:=∀p,∀ns:Yb Yh,ns.length<=63->∃σ',ex Dk (rk (qd p) mq 172 6) (nh ns)=.c (.b<|.j Ye) σ'/\σ'.o 0=Y6 (.d lq)
theorem Ty{W:Wd}{n:Y9}{vs:Lv}{ns:Yb Yh}(h:IntsAre vs ns):ll W n (ns.map .d) vs:=by induction h with|nil=>exact .U|cons _ _ _ u=>exact .S (.cr _ _) u
theorem Tz{vs:Lv}{ns:Yb Yh}(h:IntsAre vs ns):vs.length=ns.length:=by induction h with|nil=>rfl|cons _ _ _ u=>exact i6 sA u
local macro_rules (kind:=PySem.W.tacticK_qdec) | q=>Lean.Macro.throwError ""
set_option tactic.hygienic true in theorem AM(plain:Ls):PySem.Challenge.rw_dm0167_01.Holds:=hd<|by
 intro w aQ a9 mg mb G Y fa o pm cd doc dV kV ho hd hcd hD hmg hg args vals as hpre hlay hrd hwl hlo;obtain KX:=kIn_of Y;refine Ground.open G ?_;intro T B D TE TW;try(refine guard_noD D jg ?_;clear D)
 have hT9:TabsAt ([(296,294)]:Yb<|Addr×YF) _:=g'.mpr ⟨tab_of (x:=pX "law") (c:=296) (P:=294) T KX Y7<|by kernel_rfl,λy h=>tq h⟩;obtain he9:cd=PySem.Value.ref 296:=law_code (c:=296) (P:=294) KX (Top.g T) (by kernel_rfl) hmg ho hd;subst he9;clear hmg;wrow_args hpre hlay hrd hwl hlo;all_goals(refine Pd ?_;w_top on;refine Pe hT9 (λy y=>Y7) ?_;w_call any ho hd hcd hD T F;clear hd;kn_ghosts F T;k_drop;skip)
 rename_i ns hs hlay0 hL0 hr0 hl2 u5 u4 a vs u1 hL ra hW1 r0 hI hr hcond1 hcond2 aF dA w3 w2 w1 w0 hc3 hc2 hc1 hc0 X0 X' T' K' F' N' l0;refine bC λn0=>?_;obtain⟨lo,hlo,hlc,ln,hld⟩:=lifted;obtain hlen:ns.length<=63:=by lia
 obtain⟨σ',hex,htab⟩:=plain w.params ns hlen;obtain hvl:=Tz hI;refine n0 ?_;have hdict:lo.dict=Y8:=by refine bC λn0=>?_;obtain⟨xs,e⟩:=(by first|exact⟨_,Y7⟩|(unfold ofPy;exact⟨_,rfl⟩):∃xs,ofPy (k_<|ns.map Z_)=.list xs);obtain⟨lo2,hlo2,hc2,_⟩:=hL;obtain e2:=ghost_ne (tabs:=[(296,294)]) hlo2 (λz=>by have z':=Yw.mp z;replace hlo2:=z'▸hlo2;have e9:=(hT9 _<|.head _).2;replace hlo2:=e9▸hlo2;cases hlo2;cases hc2);refine n0 ?_;cases hW1 with|list e3 _=>rw[e3]at hlo2;cases hlo2;replace hlo:=e2▸hlo;cases hlo;rfl
 have hlam:D6 ⟨YN.row.prog,w,ghostOf a9.heap [(296,294)],a9.os,294⟩:=by refine bC λn0=>?_;obtain⟨bm,ob,b1,b2,b3,b4,b5,b6⟩:=T'.bmain;refine n0 ?_;exact⟨mg,bm,ob,T'.g,b1,b2,b3,b4,b5,b6⟩
 have SX:=λn=>vW (Tu w.params X' (topRead_of T') hlam) (topRead_of T').nolimit (Tw w.params) (by rfl) (by rfl) n;refine SG (P:=⟨YN.row.prog,w,ghostOf a9.heap [(296,294)],a9.os,294⟩) (sc:=GE) (ps:=["script"]) (cargs:=[.ref a]) (T:=294) (L:=a9.heap.objs.size) (cd:=296) (q:=lq) (fz:=λb=>if b=a then Y6 lo else Y8) (b:=Dk) (v:=.j Ye) (σ':=σ')
  jg Y7 Y7 Y7 Y7 Y7 Y7 (hideAll_size _ _) l0 F'.ns F'.keep (λx c hm=>?_) (λb ob hb=>?_) (.S (.ee (d9 Y7) hlc hld ?_ (Ty hI) hdict) .U) hg Y7
  (hideAll_none _<|.head _) (N' _<|.tail _<|.tail _<|.tail _<|.tail _<|.head _).1 Y7 codeHd Y7 Y7 (SX 6) (by rw[wS];decide) ((G2 Dk GE<|.l<|Bu<|vu<|ni TB 28).h jg) hex htab<|λW c s' ps' hv hk ht ho hg=>?_;.have hm':=hm;cases hm' with|head=>exact⟨w3,(N' _<|.head _).1,hc3⟩|tail _ hm'=>cases hm' with|head=>exact⟨w2,(N' _<|.tail _<|.head _).1,hc2⟩|tail _ hm'=>cases hm' with|head=>exact⟨w1,(N' _<|.tail _<|.tail _<|.head _).1,hc1⟩|tail _ hm'=>cases hm' with|head=>exact⟨w0,(N' _<|.tail _<|.tail _<|.tail _<|.head _).1,hc0⟩|tail _ h=>cases h
 .have hb':=hb;split at hb';.rename_i e;subst e;cases hb';exact hlo
  .exact lz hb'
 .rw[dT,nU];lia
 .cases hv;refine⟨⟨.inl ⟨_,_,_,Y7,λcls=>?_,.bool Ye,?_,λy=>⟨sD,λa ha=>by cases ha⟩⟩,hk,ho,hg⟩,⟨ps',ht⟩,YY⟩;.rfl
  .first|rfl|kernel_rfl|w_fin
end Mine.Lake.L09
namespace Mine.Lake.Rp
open PySem StrLaws PySem.Builtin PySem.Builtin.Str
def rp(y z:Ln)(k:Y9)(l:Ln):Ln:=lr (λq=>[]) (λc l r k=>k.rec (if(c::l).take y.length=y then z++r (y.length-1)else c::r 0) λk q=>r k) l k
def oc(y:Ln)(i k:Y9)(l:Ln):Ln:=lr (λq q=>[]) (λc l r i k=>k.rec (if(c::l).take y.length=y then i::r (i+1) (y.length-1)else r (i+1) 0) λk q=>r (i+1) k) l i k
theorem jU{α:Type}{xs l:Yb α}{i:Y9}{c:α}(h:xs.drop i=c::l):i<xs.length:=Nat.lt_of_not_le λq=>by replace h:=(lE q).symm.trans h;cases h
theorem Lu{α:Type}{xs y:Yb α}{i:Y9}(hi:i<=xs.length)(h:(xs.drop i).take y.length=y):i+y.length<=xs.length:=by have:=i6 Ys h;rw[dF,r9]at this;exact Nat.add_le_of_le_sub' hi<|by rw[<-this];exact fR _ _
section
variable{x:Yg}{y z:Ln}
theorem TA(hy:y≠[])(n:Y9)(O:n=x.length):∀(l:Ln)(i k free:Y9)(found:Yp Y9),free-i=k->x.cps.toList.drop i=l->found.size<=i->i<=n->(X_ (eM i<|n+1-i) (found,free)<|occBody x ⟨y.toArray⟩ n<|n+1).run.fst.toList=found.toList++oc y i k l:=by intro S;induction S with|nil=>intro i k free found hk h hs hi;have:i=n:=fQ hi<|(by rw[O];exact n8:x.cps.toList.length=n)▸ZT.mp h;subst this;rw[(by rw[dD];rfl:eM i (i+1-i)=[i])];rw[oM];unfold Y_;rw[d8<|λq=>g9 q.1.2<|Nat.not_le.mpr<|dH<|by show 0<y.toArray.size;rw[dT];exact YT.mpr hy];rw[show oc y i k []=[]from Y7];simp|cons c l L=>
  intro i k free found hk h hs hi;have u:x.cps.toList.length=n:=by rw[O];exact n8
  have F:i<n:=u▸jU h;have N:x.cps.toList.drop (i+1)=l:=by rw[<-lT,h];rfl
  have J:(⟨y.toArray⟩:Yg).length=y.length:=by show y.toArray.size=_;rw[dT]
  have I:i+(⟨y.toArray⟩:Yg).length<=n/\subAt x ⟨y.toArray⟩ i=Ye↔(c::l).take y.length=y:=by
   rw[subAt_eq,h,J];constructor;.intro q;simpa using q.2
   .intro q;refine⟨?_,by simpa using q⟩;rw[<-h]at q;exact u▸Lu (u.symm▸hi) q
  rw[(by rw[nB,sV<|n6 F];rfl:eM i (n+1-i)=i::eM (i+1) (n+1-(i+1))),oM];unfold Y_;cases k with|succ k=>rw[d8<|λq=>by rw[iJ q.1.1.2]at hk;cases hk];exact L (i+1) k free found (by rw[Nat.sub_succ,hk];rfl) N (n7 hs) F|zero=>
   by_cases hc:(c::l).take y.length=y;.obtain⟨T,U⟩:=I.mpr hc;rw[d9 ⟨⟨⟨w6<|g8 hs hi,Nat.sub_eq_zero_iff_le.mp hk⟩,T⟩,U⟩];obtain ih:=L (i+1) (y.length-1) (i+(⟨y.toArray⟩:Yg).length) (found.push i) (by rw[J,Nat.add_sub_add_left]) N (by rw[size_push];exact m9 hs) F;obtain e:oc y i 0 (c::l)=i::oc y (i+1) (y.length-1) l:=d9 hc;rw[e];refine Eq.trans ih ?_;rw[nR,v5];rfl
   .rw[d8<|λq=>hc<|I.mp ⟨q.1.2,q.2⟩];obtain e:oc y i 0 (c::l)=oc y (i+1) 0 l:=d8 hc;rw[e];exact L (i+1) 0 free found (by rw[Nat.sub_succ,hk];rfl) N (n7 hs) F
theorem Dn(hy:y≠[]):d_ x ⟨y.toArray⟩ 0 x.length (x.length+1)=oc y 0 0 x.cps.toList:=by rw[occ_eq];exact TA hy x.length Y7 x.cps.toList 0 0 0 #[] Y7 Y7 (v8 _)<|v8 _
theorem TC(z p:Yg){r:Yb Yg}(h:r≠[]):j_ z (p::r)=p++z++j_ z r:=by cases r with|nil=>exact g9 Y7 h|cons a r=>rfl
theorem qe(x:Yg)(a b:Y9):(strSub x a b).cps.toList=(x.cps.toList.drop a).take (b-a):=strSub_toList x a b
theorem TF(hy:y≠[]):∀(l:Ln)(i k a:Y9),x.cps.toList.drop i=l->i<=x.length->(k=0->a<=i)->(0<k->a=i+k)->a<=x.length->(j_ ⟨z.toArray⟩<|partsFrom x y.length a<|oc y i k l).cps.toList=(x.cps.toList.drop a).take (i-a)++rp y z k l:=by intro O;induction O with
 |nil=>
  intro i k a h hi J h1 I;obtain hlen:x.cps.toList.length=x.length:=n8;obtain hge:x.length<=i:=hlen▸ZT.mp h;rw[(by cases k<;>rfl:oc y i k []=[]),(by cases k<;>rfl:rp y z k []=[]),eY];show(strSub x a x.length).cps.toList=_;rw[qe];by_cases hk:k=0;.have:=J hk;rw[fQ hi hge]
  .have:=h1<|w5 hk;exact g9 (g8 I hge)<|this▸ZN.mpr (dH<|w5 hk)|cons c l L=>
  intro i k a h hi J h1 I;obtain hlen:x.cps.toList.length=x.length:=n8;have F:i<x.length:=hlen▸jU h;have N:x.cps.toList.drop (i+1)=l:=by rw[<-lT,h];rfl
  cases k with|succ k=>obtain ha':=h1<|eG _;show(j_ _<|partsFrom x y.length a<|oc y (i+1) k l).cps.toList=_++rp y z k l;rw[L (i+1) k a N F (λq=>by rw[ha',q];exact j7 _) (λw=>ha'.trans<|m5 i k 1) I];rw[iJ<|ha'▸i8 (eG k) i,iJ<|ha'▸m7 i _]|zero=>
   have u:=J Y7;by_cases hc:(c::l).take y.length=y;.obtain e1:oc y i 0 (c::l)=i::oc y (i+1) (y.length-1) l:=d9 hc;obtain e2:rp y z 0 (c::l)=z++rp y z (y.length-1) l:=d9 hc;have hp:0<y.length:=YT.mpr hy;obtain hfit:i+y.length<=x.length:=hlen▸Lu (hlen.symm▸hi) (h.symm▸hc);rw[e1,e2];show(j_ _<|strSub x a i::partsFrom x y.length (i+y.length) _).cps.toList=_;rw[TC _ _<|by cases Mine.Lake.Rp.oc y (i+1) (y.length-1) l<;>exact mK _ _];show((strSub x a i).cps++z.toArray++(j_ _ _).cps).toList=_;rw[lB,lB,qe,L (i+1) (y.length-1) (i+y.length) N F (λq=>i8 (rN q) i) λw=>by rw[m3,dO hp] hfit];rw[iJ<|i8 hp i,rY,oO,v5]
   .obtain e1:oc y i 0 (c::l)=oc y (i+1) 0 l:=d8 hc;have e2:rp y z 0 (c::l)=c::rp y z 0 l:=d8 hc;rw[e1,e2,L (i+1) 0 a N F (λw=>n7 u) (λq=>g9 q<|fD 0) I];rw[(by
     rw[sV u,List.take_add_one];congr 1;rw[iP,dO u];have:(x.cps.toList.drop i)[0]?=Y6 c:=by rw[h];rfl
     rw[iP,rX]at this;rw[this];rfl:(x.cps.toList.drop a).take (i+1-a)=(x.cps.toList.drop a).take (i-a)++[c]),v5];rfl
theorem TG(hy:y≠[]):∀(l:Ln)(i k:Y9),oc y i k l=[]->k=0->rp y z k l=l:=by intro F;induction F with|nil=>intro i k h hk;subst hk;rfl|cons c l u=>
  intro i k h hk;subst hk;by_cases hc:(c::l).take y.length=y;.have e1:oc y i 0 (c::l)=i::oc y (i+1) (y.length-1) l:=d9 hc;rw[e1]at h;cases h
  .obtain e1:oc y i 0 (c::l)=oc y (i+1) 0 l:=d8 hc;obtain e2:rp y z 0 (c::l)=c::rp y z 0 l:=d8 hc;rw[e1]at h;exact zJ5 e2<|zJ5 (u (i+1) 0 h Y7) Y7
set_option tactic.hygienic true in theorem TH(hy:y≠[]):(eL x ⟨y.toArray⟩ ⟨z.toArray⟩).cps.toList=rp y z 0 x.cps.toList:=by
 obtain hyl:(⟨y.toArray⟩:Yg).length=y.length:=by show y.toArray.size=_;rw[dT]
 obtain hp:0<y.length:=YT.mpr hy;unfold eL;rw[Dn hy];split
 .rename_i hc;rw[fX,j0]at hc;rcases hc with hc|hc;.exact(TG hy _ 0 0 (List.isEmpty_iff.mp hc) Y7).symm
  .have:=ZC.mp hc.1;lia
 .rw[glued_eq_join,rJ,hyl,TF hy x.cps.toList 0 0 0 Y7 (v8 _) (λq=>j7 _) (λh=>g9 h<|fD _)<|v8 _];rfl
end
end Mine.Lake.Rp
namespace Mine.Lake.Rp
open PySem
section
variable{y z:Ln}
def tz(l:Ln):Ln:=rp [120,120] [120] 0<|rp [120,120] [120] 0<|rp [120,120,120,120] [120] 0<|rp [120,120,120,120,120,120,120,120] [120] 0 l
def qy(l:Ln):Ln:=rp [10,120] [10] 0 l
def qn(p:Ln):Prop:=∃q,p=q++[10]
theorem uS{y z:Ln}(hy:10∉y)(F:y≠[]):∀{q:Ln}{k:Y9},k<=q.length->qn (rp y z k<|q++[10])
 |[],k,hk=>by
  obtain rfl:k=0:=Nat.le_zero.mp hk;refine⟨[],?_⟩;show(if([10]:Ln).take y.length=y then _ else _)=_;rw[d8];.rfl
  .intro q;cases y with|nil=>exact F Y7|cons a r=>exact hy<|by rw[<-(r4 q).1];exact .head _
 |c::q,0,_=>by
  by_cases hc:(c::q++[10]).take y.length=y
  .obtain hle:y.length<=(c::q).length:=by refine YR.mp λL=>hy ?_;rw[<-hc,List.take_append,rK];refine .inr ?_;obtain⟨n,J⟩:∃n,y.length-(c::q).length=n+1:=Nat.exists_eq_succ_of_ne_zero<|Nat.sub_ne_zero_of_lt L;rw[J,fO];exact .head _
   rw[m4]at hle;have e2:rp y z 0 (c::q++[10])=z++rp y z (y.length-1) (q++[10]):=d9 hc;obtain⟨u,I⟩:=uS (z:=z) hy F (q:=q) (k:=y.length-1) (by simp[hle]);exact⟨z++u,by rw[e2,I,v5]⟩
  .have e2:rp y z 0 (c::q++[10])=c::rp y z 0 (q++[10]):=d8 hc;obtain⟨u,I⟩:=uS (z:=z) hy F (q:=q) (k:=0)<|v8 _;exact⟨c::u,by rw[e2,I];rfl⟩|c::q,k+1,hk=>uS (q:=q) hy F<|u7 hk
end
end Mine.Lake.Rp
namespace Mine.Lake
open PySem PySem.W PyProof.Rows
theorem TK{cx:Cx}{x:_}{σ:St}:ev cx (.v x) σ=match σ.l.lookup x with|some v=>.c v σ|Option.none=>.b:=Y7
theorem TL{cx:Cx}{x:_}{σ:St}:ev cx (.F x) σ=match σ.e.lookup x with
  |some k=>match σ.o k with|some<|.cell<|some v=>.c v σ|_=>.b
  |Option.none=>.b:=Y7
theorem TM{cx:Cx}{x:_}{σ:St}:ev cx (.g x) σ=match cx.p x with|some v=>.c v σ|Option.none=>.b:=Y7
theorem TN{cx:Cx}{op:_}{a:_}{b:_}{σ:St}:ev cx (.t op a b) σ=(ev cx a σ).F λF a7=>(ev cx b a7).F λu a8=>(Ay a8.h op F u).st a8:=Y7
theorem yr{cx:Cx}{a:_}{σ:St}:ev cx (.B a) σ=(ev cx a σ).F λu a7=>(xl u).st a7:=Y7
theorem TO{cx:Cx}{a:_}{σ:St}:ev cx (.J a) σ=(ev cx a σ).F λu a7=>match nc a7.h u with|some b=>.c (.j !b) a7|Option.none=>.b:=Y7
theorem Lw{cx:Cx}{op:_}{a:_}{b:_}{σ:St}:ev cx (.j op a b) σ=(ev cx a σ).F λF a7=>(ev cx b a7).F λu a8=>(wM a8.h op F u).st a8:=Y7
theorem vx{cx:Cx}{a:_}{b:_}{σ:St}:ev cx (.E a b) σ=(ev cx a σ).F λu a7=>mv u a7 (ev cx b)<|λa7=>.c u a7:=Y7
theorem xu{cx:Cx}{a:_}{b:_}{σ:St}:ev cx (.H a b) σ=(ev cx a σ).F λu a7=>mv u a7 (λa7=>.c u a7)<|ev cx b:=Y7
theorem TP{cx:Cx}{c:_}{a:_}{b:_}{σ:St}:ev cx (.K c a b) σ=(ev cx c σ).F λu a7=>mv u a7 (ev cx a)<|ev cx b:=Y7
theorem TQ{cx:Cx}{a:_}{i:_}{σ:St}:ev cx (.q a i) σ=(ev cx a σ).F λu a7=>(ev cx i a7).F λvi a8=>(qw a8.h u vi).st a8:=Y7
theorem TR{cx:Cx}{a:_}{lo:_}{hi:_}{σ:St}:ev cx (.z a lo hi) σ=(ev cx a σ).F λu a7=>(ev cx lo a7).F λI a8=>(ev cx hi a8).F λF aE=>(yO aE.h u I F).st aE:=Y7
theorem TS{cx:Cx}{o:_}{f:_}{σ:St}:ev cx (.A o f) σ=(ev cx o σ).F λvo a7=>(cx.m vo f a7.h).st a7:=Y7
theorem Ly{cx:Cx}{es:_}{σ:St}:ev cx (.r es) σ=(ev cx es σ).F λvs a7=>jL vs a7 λxs a7=>pf xs.length<|.c (.h xs) a7:=Y7
theorem TT{cx:Cx}{es:_}{σ:St}:ev cx (.D es) σ=(ev cx es σ).F λvs a7=>jL vs a7 λxs a7=>pf xs.length<|.c (.n xs) a7:=Y7
theorem LB{cx:Cx}{a:_}{b:_}{σ:St}:ev cx (.d a b) σ=(ev cx a σ).F λu a7=>(ev cx b a7).F λvs a8=>jL vs a8 λxs a8=>.c (.h<|u::xs) a8:=Y7
theorem TU{cx:Cx}{f:_}{as:_}{σ:St}:ev cx (.n f as) σ=(ev cx f σ).F λvf a7=>(ev cx as a7).F λvs a8=>jL vs a8 λxs a8=>(cx.i vf xs a8.h).I a8:=Y7
theorem LC{cx:Cx}{o:_}{m:_}{as:_}{σ:St}:ev cx (.m o m as) σ=(ev cx o σ).F λvo a7=>match cx.k vo m a7.h with|some (vf,first)=>(ev cx as a7).F λvs a8=>jL vs a8 λxs a8=>(cx.i vf (first++xs) a8.h).I a8|Option.none=>.b:=Y7
theorem TV{cx:Cx}{elt:_}{x:_}{it:_}{cond:_}{σ:St}:ev cx (.u elt x it cond) σ=(ev cx it σ).F λvi a7=>match mu a7.h vi with|some xs=>(nd vi xs (λv a8=>(ev cx cond {a8 with l:=[(x,v)],e:=a7.e,a:=Y8}).F λb aE=>zk b aE<|ev cx elt) xs a7).F λvs a8=>pf vs.length<|.c (.h vs) {a7 with h:=a8.h}|Option.none=>.b:=Y7
theorem TX{cx:Cx}{ps:_}{b:_}{σ:St}:ev cx (.L ps b) σ=vc σ (.r ps b σ.e):=Y7
theorem xv{cx:Cx}{es:_}{σ:St}:ev cx (.I es) σ=(ev cx es σ).F λvs a7=>jL vs a7 λxs a7=>pf xs.length<|.c (.g a7.n)<|a7.add<|.a xs:=Y7
theorem TY{cx:Cx}{elt:_}{x:_}{y:_}{it:_}{σ:St}:ev cx (.w elt x y it) σ=(ev cx it σ).F λvi a7=>match mu a7.h vi with|some xs=>(nd vi xs (λv a8=>(Bf x y v).elim .b λl=>(ev cx elt {a8 with l:=l,e:=a7.e,a:=Y8}).F λr aE=>.c (Y6 r) aE) xs a7).F λvs a8=>pf vs.length<|.c (.h vs) {a7 with h:=a8.h}|Option.none=>.b:=Y7
theorem TZ{cx:Sx}{x:_}{it:_}{b:_}{σ:St}:ex (.p x it b) cx σ=(ev cx.c it σ).F λv a7=>match mu a7.h v with|some xs=>qc v xs (λu σ=>ex b cx<|σ.F x u) xs a7|none=>.b:=Y7
set_option tactic.hygienic true in theorem U0{cx:Sx}{x:_}{e:_}{σ:St}:ex (.A x e) cx σ=(ev cx.c (.v x) σ).F λu aT=>(ev cx.c e aT).F λv a7=>((uj u v).st a7).F λr a8=>.c .a<|a8.F x r:=rfl
theorem U1{cx:Sx}{o:_}{f:_}{o':_}{I:_}{e:_}{σ:St}:ex (.r o f o' I e) cx σ=(ev cx.c e σ).F λv a7=>wF v λa b=>(ev cx.c o a7).F λvo a8=>(vJ<|(cx.q vo f a a8.h).map λH=>{a8 with h:=H}).F λ_ aE=>(ev cx.c o' aE).F λF u=>vJ<|(cx.q F I b u.h).map λH=>{u with h:=H}:=Y7
theorem U2{cx:Sx}{x:_}{u:_}{ps:_}{b:_}{σ:St}:ex (.C x u ps b) cx σ=match σ.l.lookup x with|some<|.f v=>(cx.p u).elim .b λvt=>(cx.r vt).elim .b λf=>(AC f ps v).elim .b λv'=>ex b cx<|σ.F x<|.f v'|_=>.b:=Y7
inductive Gd{α:Type}(r:Rs α)(Q:α->St->Prop):Prop where|mk(a:α)(σ:St)(h1:r=.c a σ)(h2:Q a σ)
section
variable{cx:Sx}{σ a7 a8:St}{Q:Fl->St->Prop}
theorem Gd.mono{α:Type}{r:Rs α}{Q Q':α->St->Prop}(h:Gd r Q)(u:∀a σ,Q a σ->Q' a σ):Gd r Q':=by obtain⟨a,σ,e,q⟩:=h;exact⟨a,σ,e,u a σ q⟩
theorem qF{a b:S}(h:Gd (ex a cx σ) λf a7=>match f with|.a=>Gd (ex b cx a7) Q|f=>Q f a7):Gd (ex (.d a b) cx σ) Q:=by obtain⟨f,a7,e,h⟩:=h;obtain hev:ex (.d a b) cx σ=AD f a7 (ex b cx):=(Rs.u e:_);erw[hev];clear hev;cases f with|a=>exact h|_=>exact⟨_,a7,Y7,h⟩
set_option tactic.hygienic true in theorem qC(h:Q .a σ):Gd (ex .g cx σ) Q:=⟨_,_,rfl,h⟩
theorem zY{e:X}{v:V}(u:ev cx.c e σ=.c v a7)(h:Q (.b v) a7):Gd (ex (.m e) cx σ) Q:=⟨_,_,(Rs.u u:_),h⟩
set_option tactic.hygienic true in theorem C4{x:Str}{e:X}{xs:List V}(u:ev cx.c e σ=.c (.h xs) a7)(h:Q .a<|(a7.add<|.a xs).F x<|.g a7.n):Gd (ex (.z x e) cx σ) Q:=⟨_,_,(Rs.u u:_),h⟩
theorem zL{c:X}{a b:S}{v:V}{t:Yj}(F:ev cx.c c σ=.c v a7)(u:nc a7.h v=Y6 t)(h1:t->Gd (ex a cx a7) Q)(h2:t=Yc->Gd (ex b cx a7) Q):Gd (ex (.h c a b) cx σ) Q:=by obtain hev:ex (.h c a b) cx σ=np v a7 (ex a cx) (ex b cx):=(Rs.u F:_);erw[hev];unfold np;erw[u];cases t with|true=>exact h1 Y7|false=>exact h2 Y7
set_option tactic.hygienic true in theorem C5{x y:Str}{e:X}{a b:V}(u:ev cx.c e σ=.c (.n [a,b]) a7)(h:Q .a<|(a7.F x a).F y b):Gd (ex (.q x y e) cx σ) Q:=⟨_,_,(Rs.u u:_),h⟩
set_option tactic.hygienic true in abbrev LQ(I:St->Prop)(Q:Fl->St->Prop)(f:Fl)(σ':St):Prop:=match f with|.a=>I σ'|.c=>I σ'|.d=>Q .a σ'|.b u=>Q (.b u) σ'
theorem xB{n:Y9}{c:X}{b o:S}(I:Y9->St->Prop)(T:I n σ)(N:∀k σ,I k σ->∃F,k=F+1/\∃v a7 t,ev cx.c c σ=.c v a7/\nc a7.h v=Y6 t/\(t->Gd (ex b cx a7) (LQ (I F) Q))/\(t=Yc->Gd (ex o cx a7) Q)):Gd (ex (.loop n c b o) cx σ) Q:=(by intro k;induction k with|zero=>intro σ L;refine am (N 0 σ L) λF e q=>?_;cases e|succ k O=>intro σ L;refine bC λJ=>?_;obtain⟨F,e,v,a7,t,e1,e2,h1,h2⟩:=N _ σ L;refine J ?_;injection e with e;subst e;show Gd ((tr (ev cx.c c) σ).F λt σ=>if t then(ex b cx σ).F<|Bi (jN (tr<|ev cx.c c) (ex b cx) (ex o cx) k)else ex o cx σ) Q;erw[(by unfold tr;rw[Rs.u e1];unfold oz;rw[e2]:tr (ev cx.c c) σ=.c t a7)];cases t with
   |true=>refine bC λJ=>?_;obtain⟨f,σ',U,h3⟩:=h1 Y7;refine J ?_;show Gd ((ex b cx a7).F _) Q;erw[U];cases f with|a=>exact O σ' h3|c=>exact O σ' h3|d=>exact⟨_,_,Y7,h3⟩|b u=>exact⟨_,_,Y7,h3⟩
   |false=>exact h2 Y7:∀k σ,I k σ->Gd (jN (tr<|ev cx.c c) (ex b cx) (ex o cx) k σ) Q) n σ T
set_option tactic.hygienic true in theorem Do{x:Str}{it:X}{b:S}{v:V}{xs:List V}(Y:ev cx.c it σ=.c v a7)(hi:mu a7.h v=some xs)(I:List V->St->Prop)(T:I xs a7)(L:∀l σ,I l σ->mu σ.h v=some xs)(U:∀y r σ,I (y::r) σ->Gd (ex b cx<|σ.F x y) (LQ (I r) Q))(N:∀σ,I [] σ->Q .a σ):Gd (ex (.p x it b) cx σ) Q:=by
 rw[(by rw[TZ,Rs.u Y,hi]:ex (.p x it b) cx σ=qc v xs (λu σ=>ex b cx<|σ.F x u) xs a7)];obtain main:∀l F,I l F->Gd (qc v xs (λu σ=>Mine.Lake.ex b cx<|σ.F x u) l F) Q:=by intro l;induction l with|nil=>intro F J;exact⟨.a,F,Jt<|L _ _ J,N F J⟩|cons y r O=>intro F J;obtain⟨f,σ',e,h⟩:=U y r F J;refine zJ5 (Ju<|L _ _ J)<|zJ5 e ?_;cases f with|a=>exact O σ' h|c=>exact O σ' h|d=>exact⟨_,_,Y7,h⟩|b Z=>exact⟨_,_,Y7,h⟩
 exact main xs a7 T
set_option tactic.hygienic true in theorem xW{o:X}{f:Str}{e:X}{v vo:V}{H:Hp}(F:ev cx.c e σ=.c v a7)(u:ev cx.c o a7=.c vo a8)(hs:cx.q vo f v a8.h=some H)(h:Q .a {a8 with h:=H}):Gd (ex (.l o f e) cx σ) Q:=by refine⟨_,_,(Rs.u F:_).trans<|(Rs.u u:_).trans ?_,h⟩;erw[hs];rfl
end
theorem Str.rl{a b:Yg}(h:a.cps.toList=b.cps.toList):a=b:=by cases a;cases b;simp only at h;congr;exact Array.toList_inj.mp h
theorem Str.un(a b:Yg):(a==b)=(a.cps.toList==b.cps.toList):=by
 by_cases h:a=b;.subst h;simp
 .have:a.cps.toList≠b.cps.toList:=λq=>h<|Str.rl q;simp only[Yl.mpr h,Yl.mpr this]
section
variable{H:Hp}{a b:Yh}{x y:Yg}{cx:Sx}{σ a7 a8 aE:St}{Q:Fl->St->Prop}
theorem q9(h:Q .d σ):Gd (ex .u cx σ) Q:=⟨_,_,Y7,h⟩
theorem C6(h:Q .c σ):Gd (ex .k cx σ) Q:=⟨_,_,Y7,h⟩
theorem GF(h:Q (.b .none) σ):Gd (ex .B cx σ) Q:=⟨_,_,Y7,h⟩
set_option tactic.hygienic true
theorem C7{x y:Yg}{e:X}{v:V}(u:ev cx.c e σ=.c v a7)(h:Q .a<|(a7.F x v).F y v):Gd (ex (.s x y e) cx σ) Q:=⟨_,_,(Rs.u u:_),h⟩
theorem yB{x:Yg}{e:X}{v:V}(u:ev cx.c e σ=.c v a7)(hs:a7.L x v=Y6 a8)(h:Q .a a8):Gd (ex (.v x e) cx σ) Q:=by refine⟨_,a8,(Rs.u u:_).trans ?_,h⟩;erw[hs];rfl
theorem LD{e:X}{v:V}(u:ev cx.c e σ=.c v a7)(F:nc a7.h v=Y6 Ye)(h:Q .a a7):Gd (ex (.i e) cx σ) Q:=by refine⟨.a,a7,(Rs.u u:_).trans ?_,h⟩;unfold np;exact zJ5 F Y7
theorem U3{o:X}{f x:Yg}{e:X}{xs:Yb V}{vo:V}{H:Hp}(F:ev cx.c e σ=.c (.h xs) a7)(u:ev cx.c o (a7.add<|.a xs)=.c vo a8)(hs:cx.q vo f (.g a7.n) a8.h=Y6 H)(h:Q .a<|({a8 with h:=H}:St).F x<|.g a7.n):Gd (ex (.w o f x e) cx σ) Q:=by refine⟨.a,_,(Rs.u F:_).trans<|(Rs.u u:_).trans ?_,h⟩;erw[hs];rfl
set_option tactic.hygienic false
theorem U4{x u:Yg}{ps:Yb<|Str×Yg}{b:S}{v v':Yg}{vt:V}{f:Y9->Y9}(hv:σ.l.lookup x=Y6 (.f v))(hg:cx.p u=Y6 vt)(F:cx.r vt=Y6 f)(hs:AC f ps v=Y6 v')(h:Gd (ex b cx<|σ.F x<|.f v') Q):Gd (ex (.C x u ps b) cx σ) Q:=by rw[(by rw[U2,hv];rw[hg];show(cx.r vt).elim Rs.b _=_;rw[F];show(AC f ps v).elim Rs.b _=_;rw[hs];rfl:ex (.C x u ps b) cx σ=ex b cx (σ.F x<|.f v'))];exact h
set_option tactic.hygienic true in theorem U5{o:X}{f:Str}{o':X}{I:Str}{e:X}{a b vo u:V}{H H':Hp}{F:St}(O:ev cx.c e σ=.c (.n [a,b]) a7)(N:ev cx.c o a7=.c vo a8)(hs:cx.q vo f a a8.h=some H)(L:ev cx.c o' {a8 with h:=H}=.c u F)(J:cx.q u I b F.h=some H')(h:Q .a {F with h:=H'}):Gd (ex (.r o f o' I e) cx σ) Q:=by refine⟨.a,_,?_,h⟩;refine zJ5 U1<|zJ5 (Rs.u O) ?_;show(ev cx.c o a7).F _=_;refine zJ5 (Rs.u N)<|zJ5 hs ?_;show(ev cx.c o' {a8 with h:=H}).F _=_;refine zJ5 (Rs.u L)<|zJ5 J ?_;rfl
set_option tactic.hygienic true in theorem U6{x:Str}{k:Nat}{y:V}{ys:List V}(F:σ.l.lookup x=some (.g k))(u:σ.o k=some (.a<|y::ys))(h:Q .a {σ with o:=λj=>if j=k then some (.a (y::ys).dropLast)else σ.o j}):Gd (ex (.t x) cx σ) Q:=by refine⟨.a,_,?_,h⟩;show Bj x σ=_;unfold Bj;erw[F];show((sv<|σ.o k).map λxs=>(k,xs)).elim Rs.b _=_;erw[u];rfl
end
end Mine.Lake
namespace Mine.Lake.Rp
open PySem
theorem vU{y z:Ln}(hz:z.length<=1):∀(l:Ln)(k:Y9),(rp y z k l).length<=l.length
 |[],k=>by cases k<;>exact j7 _|c::l,0=>by
  by_cases h:(c::l).take y.length=y;.simp only[show rp y z 0 (c::l)=z++rp y z (y.length-1) l from d9 h,j9,m4];have:=vU (y:=y) hz l<|y.length-1;exact v3 _ _▸dS this hz
  .simp only[show rp y z 0 (c::l)=c::rp y z 0 l from d8 h,m4,m4];exact m9<|vU hz l 0|c::l,k+1=>n7<|vU hz l k
theorem U7{y z:Ln}{a:Y9}:∀(l:Ln)(k:Y9),a∈rp y z k l->a∈z\/a∈l:=by intro F;induction F with|nil=>intro k h;cases k<;>cases h|cons c l u=>exact fun
   |0,h=>by
    by_cases hc:(c::l).take y.length=y
    · rw[show rp y z 0 (c::l)=z++rp y z (y.length-1) l from d9 hc,rK]at h;rcases h with h|h;·exact .inl h
      ·exact(u _ h).imp id<|.tail _
    · rw[show rp y z 0 (c::l)=c::rp y z 0 l from d8 hc,rW]at h;rcases h with h|h;·exact .inr<|h▸.head _
      ·exact(u _ h).imp id<|.tail _|k+1,h=>(u k h).imp id<|.tail _
def first(p:Ln):Ln:=qy<|tz p
end Mine.Lake.Rp
namespace Mine.Lake.Rp
open PySem PySem.W
def tB(v:Yg):Prop:=(∀c∈v.cps.toList,c<128)/\v.length<=1000
theorem uR{v:Yg}(h:∀c∈v.cps.toList,c<128):fH v:=by unfold fH;rw[Array.all_eq_true'];intro c hc;have:=h c<|Array.mem_toList_iff.mpr hc;exact i7<|g8 this iu
theorem wE{v:Yg}(hv:tB v){y z:Ln}(hy:y≠[])(hz:z.length<=1)(F:∀c∈z,c<128):AB v ⟨y.toArray⟩ ⟨z.toArray⟩=Ye/\tB (eL v ⟨y.toArray⟩ ⟨z.toArray⟩)/\(eL v ⟨y.toArray⟩ ⟨z.toArray⟩).cps.toList=rp y z 0 v.cps.toList:=by
 refine cg hv λh1 h2=>?_;obtain e:=TH (x:=v) (z:=z) hy;have u:(eL v ⟨y.toArray⟩ ⟨z.toArray⟩).length<=v.length:=by
  obtain h3:(eL v ⟨y.toArray⟩ ⟨z.toArray⟩).cps.toList.length<=v.cps.toList.length:=by rw[e];exact vU hz _ _
  exact h3
 have hs:∀c∈(eL v ⟨y.toArray⟩ ⟨z.toArray⟩).cps.toList,c<128:=by
  intro c hc;rw[e]at hc;rcases U7 _ _ hc with q|q;.exact F c q
  .exact h1 c q
 have I:(⟨z.toArray⟩:Yg).length<=1:=by show z.toArray.size<=1;exact hz
 refine⟨?_,⟨hs,g8 u h2⟩,e⟩;unfold AB;rw[uR hs,pG,j0];refine⟨i7 ?_,i7 ?_⟩;.have:(v.length+1)*(⟨z.toArray⟩:Yg).length<=(v.length+1)*1:=aY _ I;exact g8 (dS h2<|g8 this<|eK 1<|m9 h2) iu
 .have:(1000:Y9)<=k8:=by decide
  lia
theorem vZ{a b:Yg}{r:Yb<|Str×Yg}{v:Yg}(h:AB v a b):BS ((a,b)::r) v=BS r (eL v a b):=d9 h
def LF:Yb<|Str×Yg:=[("xxxxxxxx","x"),("xxxx","x"),("xx","x"),("xx","x"),("\nx","\n")]
theorem U8:LF=[(⟨([120,120,120,120,120,120,120,120]:Ln).toArray⟩,⟨([120]:Ln).toArray⟩),(⟨([120,120,120,120]:Ln).toArray⟩,⟨([120]:Ln).toArray⟩),(⟨([120,120]:Ln).toArray⟩,⟨([120]:Ln).toArray⟩),(⟨([120,120]:Ln).toArray⟩,⟨([120]:Ln).toArray⟩),(⟨([10,120]:Ln).toArray⟩,⟨([10]:Ln).toArray⟩)]:=jg
theorem U9{f:Y9->Y9}(O:∀c,c<128->f c<128){v:Yg}(hv:tB v):∃v',AC f LF v=Y6 v'/\v'.cps.toList=qy (tz<|v.cps.toList.map f):=by
 have hm:∀c∈(q8 f v).cps.toList,c<128:=by intro c hc;refine bC λL=>?_;obtain⟨d,h1,rfl⟩:=YD.mp hc;exact L<|O d<|hv.1 d h1
 obtain hl:(q8 f v).length=v.length:=by show(v.cps.toList.map f).toArray.size=v.cps.size;rw[dT,n5,n8]
 have U:BU f v=Ye:=by unfold BU;rw[uR hm,pG,lK];exactλc hc=>i7<|hv.1 c hc
 have u:∀c∈([120]:Ln),c<128:=by decide
 refine bq (wE ⟨hm,by rw[hl];exact hv.2⟩ (y:=[120,120,120,120,120,120,120,120]) (z:=[120]) iu iu u) λr1 F e1=>bq (wE F (y:=[120,120,120,120]) (z:=[120]) iu iu u) λr2 s2 e2=>?_;refine bq (wE s2 (y:=[120,120]) (z:=[120]) iu iu u) λr3 s3 I=>bq (wE s3 (y:=[120,120]) (z:=[120]) iu iu u) λN s4 T=>?_;refine bq (wE s4 (y:=[10,120]) (z:=[10]) iu iu iu) λS s5 J=>⟨eL _ ⟨([10,120]:Ln).toArray⟩ ⟨([10]:Ln).toArray⟩,?_,J.trans ?_⟩;.unfold AC;rw[d9 U,U8,vZ r1,vZ r2,vZ r3,vZ N,vZ S];rfl
 .rw[T,I,e2,e1];rfl
end Mine.Lake.Rp
namespace Mine.Lake.Rp
open PySem
structure Mk where
 a:Y9
 b:Y9
 d:Ln
 c:Y9
set_option genCtorIdx true in inductive Md where|a|b(q w first:Nat)
def lh(q w:Y9):Ln:=YG (w+1) q
def Mk.u(m:Mk):Mk:={m with b:=m.b+1,d:=if m.a=0 then m.d++[m.b+1]else m.d}
def kr:Y9->Md->Ln->Mk->Yd Mk:=nr (λz z z=>Y8) λf md l m=>match md,l with|.a,[]=>Y6 m|.a,c::l=>if c=120 then f .a l m else if c=10 then f .a l m.u else if c=40 then f .a l {m with a:=m.a+1}else if c=41 then f .a l {m with a:=m.a-1}else if c=34\/c=39 then if(c::l).take 3=[c,c,c]then f (.b c 2 m.b) (l.drop 2) m else f (.b c 0 m.b) l m else if c=35 then if 10∈l then f .a (l.dropWhile (·≠10)) m else Y8 else if c=92 then match l with|[]=>Y8|d::l=>f .a l<|if d=10 then{m with b:=m.b+1,c:=if l=[]then 1 else m.c}else m else Y8|.b _ _ first,[]=>f .a [] {m with c:=if m.b=first+1 then 2 else 3}|.b q w first,c::l=>if c=120 then f (.b q w first) l m else if(c::l).take (w+1)=lh q w then f .a (l.drop w) m else if c=10 then if w=0 then f .a l m.u else f (.b q w first) l {m with b:=m.b+1}else if c=92 then match l with|[]=>Y8|d::l=>f (.b q w first) l<|if d=10 then{m with b:=m.b+1}else m else f (.b q w first) l m
def sm(m:Mk):Yd<|Ln×Y9:=let c:=if m.c≠2/\m.c≠3/\0<m.a then 4 else m.c
 if Yk (c=0)=Yk (m.d.getLast?=Y6 m.b)then Y6 (if m.d.getLast?=Y6 m.b then m.d else m.d++[m.b],c)else Y8
def uo(l:Ln):Yd<|Ln×Y9:=(kr 1000 .a l ⟨0,0,[0],0⟩).bind sm
end Mine.Lake.Rp
namespace Mine.Lake.Rp
open PySem StrLaws PySem.Builtin PySem.Builtin.Str
def ti:Ln->Ln×Yb (Ln):=lr ([],[]) λc q r=>if c=10 then([],r.1::r.2)else(c::r.1,r.2)
section
variable{x:Yg}
theorem LG:∀(l:Ln)(i a:Y9),x.cps.toList.drop i=l->a<=i->i<=x.length->(partsFrom x 1 a<|oc [10] i 0 l).map (·.cps.toList)=((x.cps.toList.drop a).take (i-a)++(ti l).1)::(ti l).2:=by intro N;induction N with|nil=>intro i a h F hi;have u:x.cps.toList.length=x.length:=n8;have J:x.length<=i:=u▸ZT.mp h;show[(strSub x a x.length).cps.toList]=[_++[]];rw[qe,fQ hi J,eY]|cons c l L=>
  intro i a h F hi;obtain u:x.cps.toList.length=x.length:=n8;have I:i<x.length:=u▸jU h;obtain hl:x.cps.toList.drop (i+1)=l:=by rw[<-lT,h];rfl
  by_cases hc:c=10;.subst hc;obtain e1:oc [10] i 0 (10::l)=i::oc [10] (i+1) 0 l:=Y7;have e2:ti (10::l)=([],(ti l).1::(ti l).2):=Y7;rw[e1,e2];show(strSub x a i).cps.toList::(partsFrom x 1 (i+1) _).map _=_;rw[qe,L (i+1) (i+1) hl (j7 _) I,gV,eY];rfl
  .have e1:oc [10] i 0 (c::l)=oc [10] (i+1) 0 l:=d8 λq=>by have:([c]:Ln)=[10]:=q;injection this with this;subst this;exact hc Y7
   have e2:ti (c::l)=(c::(ti l).1,(ti l).2):=d8 hc;rw[e1,e2,L (i+1) a hl (n7 F) I];rw[(by
    rw[sV F,List.take_add_one];congr 1;rw[iP,dO F];have:(x.cps.toList.drop i)[0]?=Y6 c:=by rw[h];rfl
    rw[iP,rX]at this;rw[this];rfl:(x.cps.toList.drop a).take (i+1-a)=(x.cps.toList.drop a).take (i-a)++[c]),v5];rfl
set_option tactic.hygienic true in theorem Ua:(oJ x ⟨#[10]⟩).map (·.cps.toList)=(ti x.cps.toList).1::(ti x.cps.toList).2:=by
 have F:(o_ x (oc [10] 0 0 x.cps.toList) 1).map (·.cps.toList)=(ti x.cps.toList).1::(ti x.cps.toList).2:=by rw[rJ ..,LG x.cps.toList 0 0 Y7 (j7 _) (v8 _) (x:=x)];rfl
 have u:oc [10] 0 0 x.cps.toList=[]->([x]:Yb Yg).map (·.cps.toList)=(ti x.cps.toList).1::(ti x.cps.toList).2:=λe=>by rw[<-F,e];show[x.cps.toList]=[(strSub x 0 x.length).cps.toList];rw[qe];have:x.cps.toList.length=x.length:=n8;rw[sH,sW,<-this,List.take_length]
 unfold oJ;rw[Dn (x:=x) (y:=[10]) iu];split
 .rename_i hc;refine u ?_;rw[fX,t4,t4]at hc;rcases hc with hc|hc;.have:x.cps.toList=[]:=fN (by exact(by have:(⟨#[10]⟩:Yg).length=1:=Y7;simp_all:x.length=0));rw[this];rfl
  .exfalso;rw[(by decide+kernel:sJ ⟨#[10]⟩=1)]at hc;unfold sJ at hc;split at hc;.exact fD 1 hc
   .split at hc<;>lia
 .split;.rename_i hc;exact u<|List.isEmpty_iff.mp hc
  .exact F
end
end Mine.Lake.Rp
namespace Mine.Lake.Rp
open PySem
inductive Sq:Ln->Ln->Prop|b:Sq [] []|a(c k:Y9){l l':Ln}:k=0\/c=120\/c=10->Sq l l'->Sq (c::(YG k 120++l)) (c::l')
theorem tC{n c:Y9}{l:Ln}{m:Mk}:kr (n+1) .a (c::l) m=if c=120 then kr n .a l m else if c=10 then kr n .a l m.u else if c=40 then kr n .a l {m with a:=m.a+1}else if c=41 then kr n .a l {m with a:=m.a-1}else if c=34\/c=39 then if(c::l).take 3=[c,c,c]then kr n (.b c 2 m.b) (l.drop 2) m else kr n (.b c 0 m.b) l m else if c=35 then if 10∈l then kr n .a (l.dropWhile (·≠10)) m else Y8 else if c=92 then match l with|[]=>Y8|d::l=>kr n .a l<|if d=10 then{m with b:=m.b+1,c:=if l=[]then 1 else m.c}else m else Y8:=Y7
theorem xw{n c q w f:Y9}{l:Ln}{m:Mk}:kr (n+1) (.b q w f) (c::l) m=if c=120 then kr n (.b q w f) l m else if(c::l).take (w+1)=lh q w then kr n .a (l.drop w) m else if c=10 then if w=0 then kr n .a l m.u else kr n (.b q w f) l {m with b:=m.b+1}else if c=92 then match l with|[]=>Y8|d::l=>kr n (.b q w f) l<|if d=10 then{m with b:=m.b+1}else m else kr n (.b q w f) l m:=Y7
theorem zU{α:Type}{p:Prop}[Zf p]{a b u b':α}(h1:p->a=u)(h2:¬p->b=b'):(if p then a else b)=if p then u else b':=by
 split;.exact h1 ‹_›
 .exact h2 ‹_›
theorem GG{l:Ln}:(l.dropWhile (·≠10)).length<=l.length:=by induction l with|nil=>exact j7 _|cons c l u=>
  erw[w9];split;.exact n7 u
  .exact j7 _
theorem uC{l:Ln}{k:Y9}:(l.drop k).length<=l.length:=by erw[r9];exact iY _ _
theorem Ub:∀(n:Y9)(md:Md)(l:Ln)(m:Mk),l.length+2<=n->kr (n+1) md l m=kr n md l m:=by intro I;induction I with|zero=>exactλz z z h=>g9 h<|dZ _|succ n F=>exact fun
   |.a,[],m,h=>Y7|.b q w f,[],m,h=>by cases n with|zero=>exact g9 (u7 h)<|dZ _|succ n=>rfl
   |.a,c::l,m,h=>by have u:∀md{l':Ln}m,l'.length<=l.length->kr (n+1) md l' m=kr n md l' m:=λmd l' m q=>F md l' m<|g8 (r6 q 2)<|u7 h;refine zU (λz=>u _ _<|j7 _) λz=>zU (λz=>u _ _<|j7 _) λz=>zU (λz=>u _ _<|j7 _) λz=>zU (λz=>u _ _<|j7 _) λz=>zU (λz=>zU (λz=>u _ _ uC) λz=>u _ _<|j7 _) λz=>zU (λz=>zU (λz=>u _ _ GG) λz=>Y7) λz=>zU (λz=>?_) λz=>Y7;cases l with|nil=>rfl|cons d l=>exact u _ _<|fM _
   |.b q w f,c::l,m,h=>by have u:∀md{l':Ln}m,l'.length<=l.length->kr (n+1) md l' m=kr n md l' m:=λmd l' m q=>F md l' m<|g8 (r6 q 2)<|u7 h;refine zU (λz=>u _ _<|j7 _) λz=>zU (λz=>u _ _ uC) λz=>zU (λz=>zU (λz=>u _ _<|j7 _) λz=>u _ _<|j7 _) λz=>zU (λz=>?_) λz=>u _ _<|j7 _;cases l with|nil=>rfl|cons d l=>exact u _ _<|fM _
theorem LH{n:Y9}{md:Md}{l:Ln}{m:Mk}(h:l.length+2<=n):∀k,kr (n+k) md l m=kr n md l m:=by intro F;induction F with|zero=>exact  Y7|succ k u=>exact  (Ub (n+k) md l m<|g8 h<|m7 n k).trans<|u
def kg(md:Md)(l:Ln)(m:Mk):Yd Mk:=kr (l.length+2) md l m
theorem uX{n:Y9}{md:Md}{l:Ln}{m:Mk}(h:l.length+2<=n):kr n md l m=kg md l m:=by obtain h1:=LH (md:=md) (m:=m) (j7<|l.length+2)<|n-(l.length+2);obtain h2:=LH (md:=md) (m:=m) (j7<|l.length+2)<|l.length+2-(l.length+2);rw[dO h]at h1;rw[dO<|j7 _]at h2;exact h1.trans h2.symm
theorem tD{c:Y9}{l:Ln}{m:Mk}:kg .a (c::l) m=if c=120 then kg .a l m else if c=10 then kg .a l m.u else if c=40 then kg .a l {m with a:=m.a+1}else if c=41 then kg .a l {m with a:=m.a-1}else if c=34\/c=39 then if(c::l).take 3=[c,c,c]then kg (.b c 2 m.b) (l.drop 2) m else kg (.b c 0 m.b) l m else if c=35 then if 10∈l then kg .a (l.dropWhile (·≠10)) m else Y8 else if c=92 then match l with|[]=>Y8|d::l=>kg .a l<|if d=10 then{m with b:=m.b+1,c:=if l=[]then 1 else m.c}else m else Y8:=by obtain ih:∀md{l':Ln}m,l'.length<=l.length->kr (l.length+2) md l' m=kg md l' m:=λmd l' m q=>uX<|r6 q 2;refine tC.trans<|zU (λz=>ih _ _<|j7 _) λz=>zU (λz=>ih _ _<|j7 _) λz=>zU (λz=>ih _ _<|j7 _) λz=>zU (λz=>ih _ _<|j7 _) λz=>zU (λz=>zU (λz=>ih _ _ uC) λz=>ih _ _<|j7 _) λz=>zU (λz=>zU (λz=>ih _ _ GG) λz=>Y7) λz=>zU (λz=>?_) λz=>Y7;cases l with|nil=>rfl|cons d l=>exact ih _ _<|fM _
theorem wv{c q w f:Y9}{l:Ln}{m:Mk}:kg (.b q w f) (c::l) m=if c=120 then kg (.b q w f) l m else if(c::l).take (w+1)=lh q w then kg .a (l.drop w) m else if c=10 then if w=0 then kg .a l m.u else kg (.b q w f) l {m with b:=m.b+1}else if c=92 then match l with|[]=>Y8|d::l=>kg (.b q w f) l<|if d=10 then{m with b:=m.b+1}else m else kg (.b q w f) l m:=by obtain ih:∀md{l':Ln}m,l'.length<=l.length->kr (l.length+2) md l' m=kg md l' m:=λmd l' m q=>uX<|r6 q 2;refine xw.trans<|zU (λz=>ih _ _<|j7 _) λz=>zU (λz=>ih _ _ uC) λz=>zU (λz=>zU (λz=>ih _ _<|j7 _) λz=>ih _ _<|j7 _) λz=>zU (λz=>?_) λz=>ih _ _<|j7 _;cases l with|nil=>rfl|cons d l=>exact ih _ _<|fM _
theorem Dp{md:Md}{l:Ln}{m:Mk}:∀k,kg md (YG k 120++l) m=kg md l m:=by intro F;induction F with|zero=>exact  Y7|succ k u=>refine ?_;cases md with|a=>refine zJ5 tD<|?_;exact u|b q w f=>refine zJ5 wv<|?_;exact u
theorem Sq.L{l l':Ln}(h:Sq l l'):10∈l↔10∈l':=by induction h with|b=>exact Iff.rfl|a c k _ _ u=>rw[rW,rW,rK,u];exact⟨λq=>q.imp id λq=>q.elim (λw=>g9 (mE w) iu) id,λq=>q.imp id .inr⟩
theorem Sq.N{l l':Ln}(h:Sq l l'):Sq (l.dropWhile (·≠10))<|l'.dropWhile (·≠10):=by induction h with|b=>exact .b|a c k hk h F=>
  simp only[w9,w9];split;.refine Eq.mp (i6 (Sq · _) ?_) F;induction k with|zero=>rfl|succ k u=>refine zJ5 w9<|?_;exact u<|hk.elim (λq=>HO q) .inr
  .exact .a c k hk h
theorem Sq.J{q:Y9}(u:q≠120/\q≠10):∀(j:Y9){l l':Ln},Sq l l'->(l.take j=YG j q↔l'.take j=YG j q)/\(l.take j=YG j q->Sq (l.drop j) (l'.drop j)):=by intro I;induction I with|zero=>exact@λz z h=>⟨Iff.rfl,λz=>h⟩|succ j F=>exact@fun
   |_,_,.b=>⟨Iff.rfl,λz=>.b⟩|_,_,.a c k hk h=>by
    simp only[fO,fO,List.replicate_succ,List.drop_succ_cons,List.drop_succ_cons];by_cases hc:c=q;·obtain k0:k=0:=hk.elim id λw=>g9 (w.imp (λw=>hc▸w) λw=>hc▸w:q=120\/q=10) λw=>w.elim u.1 u.2;subst k0 hc;obtain⟨h1,h2⟩:=F h;exact⟨⟨λe=>by rw[<-r4 e|>.2,h1.mp (r4 e).2];exact i6 _ (r4 e).2.symm,λe=>i6 (c::·)<|h1.mpr (r4 e).2⟩,λe=>h2 (r4 e).2⟩
    ·exact⟨⟨λe=>g9 (r4 e).1 hc,λe=>g9 (r4 e).1 hc⟩,λe=>g9 (r4 e).1 hc⟩
def NX(l:Ln):Prop:=∀u,l≠u++[120]
theorem NX.J{l v:Ln}(h:NX l)(q:v<:+l):NX v:=by obtain⟨t,rfl⟩:=q;exactλu e=>h (t++u)<|by rw[e,v5]
theorem NX.I{c:Y9}{l:Ln}(h:NX<|c::l):NX l:=h.J<|u3 _ _
theorem NX.F{k:Y9}{l:Ln}(h:NX<|replicate k 120++l):NX l:=h.J<|List.suffix_append _ _
set_option tactic.hygienic true in theorem Uc:∀(n:Nat){l l':Ln}(md:Md)(m:Mk),l.length<=n->(match md with|.b q _ _=>q≠120/\q≠10|.a=>True)->NX l->Sq l l'->kg md l m=kg md l' m:=by intro X;induction X with
  |zero=>intro _ _ md m h _ _ hs;cases hs with|b=>rfl|a=>exact g9 h<|dZ _
  |succ n J=>exact@fun
   |_,_,.a,m,h,hq,hx,hs0=>by cases hs0 with|b=>rfl|a c k hk hs=>
    rename_i l l';obtain N:=u7 h;have F:=hx.I;have L:l.length<=n:=g8 (by rw[j9];exact bA _ _) N;have I:∀m,kg .a (YG k 120++l) m=kg .a l' m:=λm=>(Dp k).trans<|J .a m L YY F.F hs;rw[tD,tD];refine zU (λy=>I _) λS=>zU (λy=>I _) λT=>?_;have V:k=0:=hk.elim id λw=>g9 w λw=>w.elim S T;subst V;have I:∀md m,(match md with|.b q _ _=>q≠120/\q≠10|.a=>True)->kg md l m=kg md l' m:=λmd m q=>J md m L q F.F hs;refine zU (λy=>I _ _ YY) λy=>zU (λy=>I _ _ YY) λy=>zU (λw=>?_) λy=>zU (λy=>?_) λy=>zU (λy=>?_) λy=>Y7
    · have hc:c≠120/\c≠10:=⟨S,T⟩;refine cg (Sq.J hc 2 hs) λh1 h2=>?_;have e1:(c::(YG 0 120++l)).take 3=[c,c,c]↔(c::l').take 3=[c,c,c]:=⟨λe=>i6 (c::·)<|h1.mp (r4 e).2,λe=>i6 (c::·)<|h1.mpr (r4 e).2⟩;by_cases e:(c::l').take 3=[c,c,c];·rw[d9 e,d9<|e1.mpr e];exact J _ _ (g8 uC L) hc (F.J<|dQ 2 l)<|h2<|(r4<|e1.mpr e).2
      ·rw[d8 e,d8 λq=>e<|e1.mp q];exact I _ _ hc
    · obtain e1:10∈YG 0 120++l↔10∈l':=hs.L;by_cases e:10∈l';·rw[d9 e,d9<|e1.mpr e];exact J _ _ (g8 GG L) YY (F.J<|eF _) hs.N
      ·rw[d8 e,d8 λq=>e<|e1.mp q]
    ·clear I;cases hs with|b=>rfl|@a d j u O hj hs=>
        show kg .a (YG j 120++u) _=kg .a O _;rw[Dp];have U:=NX.I (c:=d) F;have e:YG j 120++u=[]↔O=[]:=by cases hs with
          |b=>cases j with|zero=>exact⟨λy=>Y7,λy=>Y7⟩|succ j=>exact g9 (by rw[eY,List.replicate_succ'])<|U<|replicate j 120
          |a a b _ _=>exact Iff.intro (λq=>Ab<|(List.append_eq_nil_iff.mp q).2)<|λq=>Ab q
        rw[(by
          by_cases q:O=[];·rw[d9 q,d9<|e.mpr q]
          ·rw[d8 q,d8 λw=>q<|e.mp w]:(if YG j 120++u=[]then 1 else m.c)=if O=[]then 1 else m.c)];exact J .a _ (g8 (by rw[j9,m4,j9];exact fq) N) YY U.F hs
   |_,_,.b q w f,m,h,hq,hx,hs0=>by cases hs0 with|b=>rfl|a c k hk hs=>
    rename_i l l';have N:=u7 h;have F:=hx.I;have I:∀md m,(match md with|.b q _ _=>q≠120/\q≠10|.a=>True)->kg md (YG k 120++l) m=kg md l' m:=λmd m q=>(Dp k).trans<|J md m (g8 (by rw[j9];exact bA _ _) N) q F.F hs;rw[wv,wv];refine zU (λy=>I _ _ hq) λS=>cg (Sq.J (q:=q) hq (w+1) (l':=c::l')<|.a c k hk hs) λh1 h2=>?_;by_cases e:(c::l').take (w+1)=lh q w;·rw[d9 e,d9<|show(c::(YG k 120++l)).take (w+1)=lh q w from h1.mpr e];exact J .a m (g8 uC N) YY (F.J<|dQ _ _)<|h2<|h1.mpr e
    rw[d8 e,d8<|show¬(c::(YG k 120++l)).take (w+1)=lh q w fromλz=>e<|h1.mp z];refine zU (λy=>zU (λy=>I _ _ YY) λy=>I _ _ hq) λT=>zU (λy=>?_) λy=>I _ _ hq;have V:k=0:=hk.elim id λw=>g9 w λw=>w.elim S T;subst V;clear I;cases hs with|b=>rfl|@a d j u O hj hs=>show kg (.b q w f) (YG j 120++u) _=kg (.b q w f) O _;rw[Dp];exact J _ _ (g8 (by rw[j9,m4,j9];exact fq) N) hq (NX.I (c:=d) F).F hs
theorem Ud{y z:Ln}:∀(k:Y9)(l:Ln),rp y z k l=rp y z 0 (l.drop k):=by intro F;induction F with|zero=>exactλq=>Y7|succ k u=>exact fun|[]=>by refine ?_;rfl|c::l=>u l
theorem Ue{y:Ln}{c k:Y9}(hc:c=120\/c=10)(hy:y=c::YG k 120):∀(n:Y9){l:Ln},l.length<=n->Sq l (rp y [c] 0 l):=by intro F;induction F with
  |zero=>exact@fun|[],_=>.b|_::_,h=>g9 h<|dZ _
  |succ n u=>exact@fun
   |[],_=>.b|a::l,h=>by
    by_cases e:(a::l).take y.length=y;·rw[(by show(if(a::l).take y.length=y then[c]++rp y [c] (y.length-1) l else _)=_;rw[d9 e,Ud,hy,m4,iF];rfl:rp y [c] 0 (a::l)=c::rp y [c] 0 (l.drop k))];rw[hy,m4,iF,fO]at e;obtain rfl:=(r4 e).1;have:=Sq.a a k (.inr hc)<|u (l:=l.drop k)<|g8 uC<|u7 h;rwa[<-(by rw[<-(r4 e).2,eW]:l=YG k 120++l.drop k)]at this
    ·obtain e1:rp y [c] 0 (a::l)=a::rp y [c] 0 l:=d8 e;rw[e1];exact .a a 0 (.inl Y7)<|u<|u7 h
theorem qn.u{l:Ln}(h:qn l):NX l:=by obtain⟨q,rfl⟩:=h;exactλu e=>by have:=(List.append_inj' e Y7).2;cases this
theorem Uf{l:Ln}(h:qn l)(F:l.length<=998):uo (qy<|tz l)=(kg .a l ⟨0,0,[0],0⟩).bind sm/\kr 1000 .a (qy<|tz l) ⟨0,0,[0],0⟩=kg .a l ⟨0,0,[0],0⟩:=by
 obtain key:∀{y:Ln}{c k:Y9}{p:Ln},c=120\/c=10->y=c::YG k 120->qn p->kg .a p ⟨0,0,[0],0⟩=kg .a (rp y [c] 0 p) ⟨0,0,[0],0⟩:=λhc hy hp=>Uc _ .a _ (j7 _) YY hp.u<|Ue hc hy _<|j7 _;obtain ln:∀{y:Ln}{p:Ln},10∉y->y≠[]->qn p->qn (rp y [120] 0 p):=λhy u hp=>by obtain⟨q,rfl⟩:=hp;exact uS hy u<|v8 _
 have p1:=ln (y:=[120,120,120,120,120,120,120,120]) iu iu h;have p2:=ln (y:=[120,120,120,120]) iu iu p1;obtain p3:=ln (y:=[120,120]) iu iu p2;obtain p4:=ln (y:=[120,120]) iu iu p3;obtain e1:=key (y:=[120,120,120,120,120,120,120,120]) (k:=7) (.inl Y7) Y7 h;obtain e:=(((e1.trans<|key (y:=[120,120,120,120]) (k:=3) (.inl Y7) Y7 p1).trans<|key (y:=[120,120]) (k:=1) (.inl Y7) Y7 p2).trans<|key (y:=[120,120]) (k:=1) (.inl Y7) Y7 p3).trans<|key (y:=[10,120]) (k:=1) (.inr Y7) Y7 p4;obtain e':=(uX<|r6 (by obtain r1:∀{y:Ln}{c:Y9}(p:Ln),(rp y [c] 0 p).length<=p.length:=λp=>vU (j7 _) p 0;exact g8 (r1 _)<|g8 (r1 _)<|g8 (r1 _)<|g8 (r1 _)<|g8 (r1 _) F) 2).trans e.symm;exact⟨by unfold uo;exact zJ5 e' Y7,e'⟩
end Mine.Lake.Rp
namespace Mine.Lake
open PySem PySem.W PyProof.Rows
theorem qH{σ:St}{x:Yg}{v:V}:(σ.F x v).l.lookup x=Y6 v:=by show(yP x v σ.l).lookup x=_;rw[ku];exact bj Y7 Y7
theorem qG{σ:St}{x y:Yg}{v:V}{o:Yd V}(u:(y==x)=Yc)(h:σ.l.lookup y=o):(σ.F x v).l.lookup y=o:=by show(yP x v σ.l).lookup y=_;rw[ku,d8<|λq=>by rw[q]at u;simp at u,h]
section
variable{cx:Cx}{σ:St}
theorem ru{σ:St}{x y:Yg}{v:V}{o:Yd V}(h:σ.l.lookup y=o)(n:(y==x)=Yc:=by decide):(σ.F x v).l.lookup y=o:=qG n h
theorem qA{x:Yg}{v:V}(h:σ.l.lookup x=Y6 v):ev cx (.v x) σ=.c v σ:=by exact zJ5 TK<|zJ5 h Y7
theorem qQ{x:Yg}{v:V}(h:cx.p x=Y6 v):ev cx (.g x) σ=.c v σ:=by simp only[TM,h]
theorem uM{op:Operator}{a b:X}{x y v:V}(F:ev cx a σ=.c x σ)(u:ev cx b σ=.c y σ)(h:Ay σ.h op x y=.b v):ev cx (.t op a b) σ=.c v σ:=by refine zJ5 TN<|zJ5 (Rs.u F)<|zJ5 (Rs.u u)<|zJ5 h ?_;rfl
theorem qS{a b:X}{x y:Yh}(F:ev cx a σ=.c (.d x) σ)(u:ev cx b σ=.c (.d y) σ):ev cx (.t .Add a b) σ=.c (.d<|x+y) σ:=uM F u Y7
theorem kJ{a b:X}{x y:Yh}(F:ev cx a σ=.c (.d x) σ)(u:ev cx b σ=.c (.d y) σ):ev cx (.t .Sub a b) σ=.c (.d<|x-y) σ:=uM F u Y7
theorem zR{op:CmpOp}{a b:X}{x y v:V}(F:ev cx a σ=.c x σ)(u:ev cx b σ=.c y σ)(h:wM σ.h op x y=.b v):ev cx (.j op a b) σ=.c v σ:=by refine zJ5 Lw<|zJ5 (Rs.u F)<|zJ5 (Rs.u u)<|zJ5 h ?_;rfl
theorem xQ{a b:X}{x y:Yh}(F:ev cx a σ=.c (.d x) σ)(u:ev cx b σ=.c (.d y) σ):ev cx (.j .Eq a b) σ=.c (.j<|x==y) σ:=zR F u Y7
theorem Dq{a b:X}{x y:Yh}(F:ev cx a σ=.c (.d x) σ)(u:ev cx b σ=.c (.d y) σ):ev cx (.j .NotEq a b) σ=.c (.j<|x !=y) σ:=zR F u Y7
theorem uL{a b:X}{x y:Yh}(F:ev cx a σ=.c (.d x) σ)(u:ev cx b σ=.c (.d y) σ):ev cx (.j .Lt a b) σ=.c (.j<|decide<|x<y) σ:=zR F u Y7
theorem GH{a b:X}{x y:Yh}(F:ev cx a σ=.c (.d x) σ)(u:ev cx b σ=.c (.d y) σ):ev cx (.j .Gt a b) σ=.c (.j<|decide<|x>y) σ:=zR F u Y7
theorem wA{a b:X}{x y:Yh}(F:ev cx a σ=.c (.d x) σ)(u:ev cx b σ=.c (.d y) σ):ev cx (.j .GtE a b) σ=.c (.j<|decide<|x≥y) σ:=zR F u Y7
theorem Ug{a b:X}{x y:Yj}(F:ev cx a σ=.c (.j x) σ)(u:ev cx b σ=.c (.j y) σ):ev cx (.j .Eq a b) σ=.c (.j<|x==y) σ:=zR F u<|by cases x<;>cases y<;>rfl
theorem jW{a b:X}{x y:Yg}(F:ev cx a σ=.c (.f x) σ)(u:ev cx b σ=.c (.f y) σ):ev cx (.j .Eq a b) σ=.c (.j<|x.cps.toList==y.cps.toList) σ:=zR F u<|by rw[<-Str.un];rfl
theorem LI{a b:X}{x y:Yg}(F:ev cx a σ=.c (.f x) σ)(u:ev cx b σ=.c (.f y) σ):ev cx (.j .NotEq a b) σ=.c (.j<|x.cps.toList !=y.cps.toList) σ:=zR F u<|by show Ov.b (.j<|! x==y)=_;rw[Str.un];rfl
theorem yb{a b:X}{p q:Yj}(u:ev cx a σ=.c (.j p) σ)(F:p=Yc->ev cx b σ=.c (.j q) σ):ev cx (.H a b) σ=.c (.j<|p||q) σ:=by refine xu.trans<|(Rs.u u).trans ?_;clear u;cases p with|true=>rfl|false=>exact F Y7
theorem vB{a b:X}{p q:Yj}(u:ev cx a σ=.c (.j p) σ)(F:p->ev cx b σ=.c (.j q) σ):ev cx (.E a b) σ=.c (.j<|p&&q) σ:=by refine vx.trans<|(Rs.u u).trans ?_;clear u;cases p with|true=>exact F Y7|false=>rfl
theorem xE{a i:X}{x y v:V}(u:ev cx a σ=.c x σ)(hi:ev cx i σ=.c y σ)(h:qw σ.h x y=.b v):ev cx (.q a i) σ=.c v σ:=by refine zJ5 TQ<|zJ5 (Rs.u u)<|zJ5 (Rs.u hi)<|zJ5 h ?_;rfl
theorem vK{a lo hi:X}{x l h v:V}(I:ev cx a σ=.c x σ)(u:ev cx lo σ=.c l σ)(F:ev cx hi σ=.c h σ)(hv:yO σ.h x l h=.b v):ev cx (.z a lo hi) σ=.c v σ:=by refine zJ5 TR<|zJ5 (Rs.u I)<|zJ5 (Rs.u u)<|zJ5 (Rs.u F)<|zJ5 hv ?_;rfl
theorem qR{o:X}{f:Yg}{x v:V}(u:ev cx o σ=.c x σ)(h:cx.m x f σ.h=.b v):ev cx (.A o f) σ=.c v σ:=by refine zJ5 TS<|zJ5 (Rs.u u)<|zJ5 h ?_;rfl
theorem uK{i:Yh}:ev cx (.B<|.k i) σ=.c (.d<|-i) σ:=Y7
theorem qD{a b:X}{x:V}{xs:Yb V}(F:ev cx a σ=.c x σ)(u:ev cx b σ=.c (.h xs) σ):ev cx (.d a b) σ=.c (.h<|x::xs) σ:=by refine zJ5 LB<|zJ5 (Rs.u F)<|zJ5 (Rs.u u) ?_;rfl
theorem xP{es:X}{xs:Yb V}(h:ev cx es σ=.c (.h xs) σ)(u:xs.length<=k8):ev cx (.r es) σ=.c (.h xs) σ:=by rw[Ly,Rs.u h];exact d9 u
theorem zt{es:X}{xs:Yb V}(h:ev cx es σ=.c (.h xs) σ)(u:xs.length<=k8):ev cx (.D es) σ=.c (.n xs) σ:=by rw[TT,Rs.u h];exact d9 u
theorem zE{f as:X}{vf v:V}{xs:Yb V}{σ':St}(u:ev cx f σ=.c vf σ)(F:ev cx as σ=.c (.h xs) σ)(h:cx.i vf xs σ.h=.c v σ'):ev cx (.n f as) σ=.c v {σ with h:=σ'.h}:=by refine zJ5 TU<|zJ5 (Rs.u u)<|zJ5 (Rs.u F) ?_;show(cx.i vf xs σ.h).I σ=_;erw[h];rfl
theorem qT{o as:X}{m:Yg}{vo vf v:V}{first xs:Yb V}{σ':St}(u:ev cx o σ=.c vo σ)(hg:cx.k vo m σ.h=Y6 (vf,first))(F:ev cx as σ=.c (.h xs) σ)(h:cx.i vf (first++xs) σ.h=.c v σ'):ev cx (.m o m as) σ=.c v {σ with h:=σ'.h}:=by refine zJ5 LC<|zJ5 (Rs.u u)<|zJ5 hg ?_;show(ev cx as σ).F _=_;erw[Rs.u F];show(cx.i vf (first++xs) σ.h).I σ=_;erw[h];rfl
end
section
variable{cx:Sx}{σ a7:St}{Q:Fl->St->Prop}
def Dr(K:Hp)(f:Fl)(σ':St):Prop:=f=.a/\σ'.h=K
def C8(I:St->Prop)(f:Fl)(σ':St):Prop:=f=.a/\I σ'
def zu(b:S)(cx:Sx)(Q:Fl->St->Prop)(f:Fl)(a7:St):Prop:=match f with|.a=>Gd (ex b cx a7) Q|f=>Q f a7
theorem qK{a b:S}(h:Gd (ex a cx σ)<|zu b cx Q):Gd (ex (.d a b) cx σ) Q:=qF<|h.mono λf z q=>by cases f<;>exact q
theorem yK{e:X}{a b c:S}{t:Yj}(u:ev cx.c e σ=.c (.j t) a7)(h1:t->Gd (ex a cx a7) (zu c cx Q))(h2:t=Yc->Gd (ex b cx a7) (zu c cx Q)):Gd (ex (.d (.h e a b) c) cx σ) Q:=qK<|zL u (by cases t<;>rfl) h1 h2
theorem qM{e:X}{a c:S}{t:Yj}(u:ev cx.c e σ=.c (.j t) σ)(h1:t->Gd (ex a cx σ) (zu c cx Q))(h2:t=Yc->Gd (ex c cx σ) Q):Gd (ex (.d (.h e a .g) c) cx σ) Q:=yK u h1 λq=>qC<|h2 q
theorem xA(h:Q .c σ):Gd (ex (.d .k .g) cx σ) Q:=qF<|C6 h
theorem kb{x:Yg}{e:X}{c:S}{v:V}(u:ev cx.c e σ=.c v a7)(h:Gd (ex c cx<|a7.F x v) Q):Gd (ex (.d (.a x e) c) cx σ) Q:=qF<|⟨_,_,(Rs.u u:_),h⟩
theorem zF{e:X}{c:S}{v:V}(u:ev cx.c e σ=.c v a7)(h:Gd (ex c cx a7) Q):Gd (ex (.d (.j e) c) cx σ) Q:=qF<|⟨_,_,(Rs.u u:_),h⟩
theorem qY{e:X}{c:S}(u:ev cx.c e σ=.c (.j Ye) σ)(h:Gd (ex c cx σ) Q):Gd (ex (.d (.i e) c) cx σ) Q:=qF<|LD u Y7 h
end
section
variable{x:Yg}{p c:Y9}{l:Ln}{H:Hp}
theorem vQ(h:x.cps.toList.drop p=c::l):p<x.length:=by obtain h2:=i6 Ys h;simp only[r9,n8,m4]at h2;have:x.length=x.cps.size:=Y7;exact this▸rO h2
theorem kF(h:x.cps.toList.drop p=c::l):x.cps.toList.drop (p+1)=l:=by refine pd lT<|zJ5 h ?_;rfl
theorem Ds(h:x.cps.toList.drop p=c::l):x.cps[p]?=Y6 c:=by
 have:(x.cps.toList.drop p)[0]?=Y6 c:=by rw[h];rfl
 rw[iP,rX,dP]at this;exact this
theorem vH(hp:p<=x.length)(h:x.cps.toList.drop p=l):l.length+p=x.length:=by simp only[<-h,r9,n8];have:x.length=x.cps.size:=Y7;simp_all
theorem vG{i:Yh}(h1:-1000<=i)(h2:i<=1000):ow i:=by unfold ow;simp only[j0];exact⟨i7<|lS iu h1,i7<|mH h2 iu⟩
theorem vL{i n:Y9}(h:i<n):YL (i:Yh) n=Y6 i:=by unfold YL;erw[(d8<|by simp:(if(i:Yh)<0 then(i:Yh)+n else i)=i)];exact(d9<|by rw[j0];exact⟨i7<|by simp,i7<|by simp[h]⟩).trans<|i6 Y6<|eH i
theorem Dt(hs:x.length<=1000)(h:x.cps.toList.drop p=c::l):qw H (.f x) (.d (p:Y9))=.b (.f ⟨#[c]⟩):=FP (vG (by simp)<|by have:=vQ h;exact Z9.mpr<|g8 (n6 this) hs) (vL<|vQ h)<|Ds h
theorem Uh(a b:Y9):((Ze a b:Y9):Yh)=Ze (a:Yh) b:=by
 rcases Nat.le_total a b with h|h;.rw[w7 h,Int.min_eq_left<|Int.ofNat_le.mpr h]
 .rw[fE h,Int.min_eq_right<|Int.ofNat_le.mpr h]
theorem jK(n i:Y9):Z5 n (i:Yh)=Ze i n:=by unfold Z5;rw[d8<|Int.not_lt.mpr<|cD i,<-Uh,pM<|cD _,eH]
theorem LJ{α:Type}(xs:Yb α){p t:Y9}(hp:p<=xs.length):qh xs (Y6 (p:Yh)) (Y6 ((p+t:Y9):Yh))=(xs.drop p).take t:=by
 show(xs.drop<|clipAt xs.length (p:Yh)).take (Z5 xs.length ((p+t:Y9):Yh)-Z5 xs.length (p:Yh))=_;rw[jK,jK,w7 hp];by_cases h:p+t<=xs.length;.rw[w7 h,dD]
 .rw[fE<|gS h,dW<|by rw[r9];exact j7 _,dW<|by rw[r9];exact ZM.mpr<|n6<|Nat.not_le.mp h]
open StrLaws PySem.Builtin PySem.Builtin.Str in
theorem uq{i:Y9}:ZV x ⟨#[10]⟩ x.length i ↔ x.cps[i]?=Y6 10:=by
 unfold ZV;rw[subAt_eq];constructor
 .rintro⟨h1,h2⟩;obtain h2':=gL h2;cases hd:x.cps.toList.drop i with
  |nil=>rw[hd]at h2';cases h2'
  |cons a l=>rw[hd]at h2';injection h2' with h2';subst h2';exact Ds hd
 .intro h;refine⟨((w_.mp h).1),?_⟩;rw[(by
   obtain⟨hi,e⟩:=Yv.mp (by rw[dP];exact h)
   rw[dK hi,e]:x.cps.toList.drop i=10::x.cps.toList.drop (i+1))];rfl
theorem Ui(n i:Y9):fromIndex n (i:Yh)=i:=by unfold fromIndex;rw[d8<|Int.not_lt.mpr<|cD i,pM<|cD _,eH]
open StrLaws PySem.Builtin PySem.Builtin.Str in
theorem Uj(hp:p<=x.length)(h:x.cps.toList.drop p=l)(hm:10∈l):∃q,gE x ⟨#[10]⟩ (p:Y9)=(q:Y9)/\q<x.length/\x.cps.toList.drop q=l.dropWhile (·≠10):=by
 obtain key:∀(l:Ln)(p:Y9),x.cps.toList.drop p=l->10∈l->∃q,p<=q/\x.cps[q]?=Y6 10/\x.cps.toList.drop q=l.dropWhile (·≠10)/\∀j,p<=j->j<q->x.cps[j]?≠Y6 10:=by
  intro l;induction l with
  |nil=>intro p _ hm;cases hm
  |cons a l O =>
   intro p h hm;by_cases u:a=10
   .subst u;refine⟨p,j7 _,Ds h,?_,λj h1 h2=>by lia⟩;rw[h];rfl
   .obtain⟨q,h1,h2,h3,h4⟩:=O (p+1) (kF h) (by
     rcases Yn.mp hm with e|e
     .exact g9 e.symm u
     .exact e)
    refine⟨q,n6 h1,h2,?_,λj S L=>?_⟩
    .rw[h3];rw[List.dropWhile_cons_of_pos (by simpa using u)]
    .by_cases hj:j=p
     .subst hj;rw[Ds h];exactλe=>u (c0 e)
     .exact h4 j (bI S (gP hj)) L
 refine cc (key l p h hm) λq h1 h2 h3 h4=>?_;have I:q<x.length:=(w_.mp h2).1;refine⟨q,?_,I,h3⟩;unfold gE;rw[Ui,occ_eq];rcases occ_first x ⟨#[10]⟩ x.length 1 (j7 _) (eM p (x.length+1-p)) p (λi hi=>(YX.mp hi).1)with⟨_,F⟩|⟨pre,a,N,e,J,u,F⟩
 .exact g9 (uq.mpr h2) (F q (YX.mpr ⟨h1,i9 (dI I) dk⟩))
 .obtain haq:a=q:=by
   rcases pB a q with c|c|c
   .exact g9 (uq.mp u) (h4 a ((YX.mp (by rw[e];exact gR _ (.head _))).1) c)
   .exact c
   .exfalso;refine F q ?_ (uq.mpr h2);rcases Yz.mp (by rw[<- e];exact YX.mpr ⟨h1,fg I⟩)with m|m
    .exact m
    .rcases Yn.mp m with m|m
     .lia
     .have:=(Z3.mp (by rw[<- e];exact iU ..)).2.1;have:=(Zy.mp this).1 q m;lia
  subst haq;generalize(X_ (eM p (x.length+1-p)) ((#[]:Yp Y9),p) (Y_ x ⟨#[10]⟩ x.length 1)).run.fst=arr at J;obtain h5:arr.toList[0]?=Y6 a:=by rw[dP];exact J
  cases hL:arr.toList with
  |nil=>replace h5:=hL▸h5;cases h5
  |cons b t=>rw[hL]at h5;obtain rfl:=c0 h5;rfl
end
end Mine.Lake
namespace Mine.Lake.L09
open PySem PySem.W PyProof.Rows Mine.Lake Mine.Lake.Rp
structure Bx(G:tS)(cx:Sx):Prop where
 b:cx.p=G.h
 a:∀i args H,cx.i (.m<|.builtin i) args H=nz i args H
 f:∀k x H,cx.i (.o k) [x] H=xD (.g k) x H
 c:cx.k=xr G
 d:cx.m=yZ G
 e:cx.q=Ge G
 g:cx.r=JZ G
theorem GI{G:tS}{rows:wr}{fI:YF}:∀n,Bx G<|rk G rows fI n|0=>⟨Y7,λq q q=>Y7,λq q q=>Y7,Y7,Y7,Y7,Y7⟩|1=>⟨Y7,λq q q=>Y7,λq q q=>Y7,Y7,Y7,Y7,Y7⟩|_+2=>⟨Y7,λq q q=>Y7,λq q q=>Y7,Y7,Y7,Y7,Y7⟩
def km(H:Hp)(k:Y9)(o:O):Hp:={H with o:=λj=>if j=k then Y6 o else H.o j}
def kj(l:Ln):Yb V:=l.map λn=>.d (n:Y9)
theorem mi{H:Hp}{k:Y9}{o:O}:(km H k o).o k=Y6 o:=d9 Y7
theorem qE{H:Hp}{k j:Y9}{o:O}(h:j≠k):(km H k o).o j=H.o j:=d8 h
theorem C9{H:Hp}{k:Y9}{a b:O}:km (km H k a) k b=km H k b:=by refine i6 (λo=>Hp.mk o H.n)<|funext λj=>?_;show(if j=k then Y6 b else if j=k then Y6 a else H.o j)=if j=k then Y6 b else H.o j;split<;>rfl
def Uk(σ:St)(l:Yb<|Str×V):Prop:=∀x v,l.lookup x=Y6 v->σ.I x v
def GJ(y:Yg)(v:V)(l:Yb<|Str×V):Yb<|Str×V:=l.map λp=>(p.1,if p.1=y then v else p.2)
theorem xx{x y:Yg}{v:V}{l:Yb<|Str×V}:(GJ y v l).lookup x=(l.lookup x).map λu=>if x=y then v else u:=by unfold GJ;induction l with|nil=>rfl|cons p l F=>
  by_cases q:x=p.1;.subst q;simp[n3]
  .simp only[gH,n3,rL q];exact F
def Fx(σ:St)(H:Hp)(l:Yb<|Str×V):Prop:=σ.h=H/\Uk σ l
theorem Fx.g{l:Yb<|Str×V}{σ:St}{H:Hp}(h:Fx σ H l)(y:Yg){v:V}(e:l.lookup y=Y6 v):σ.I y v:=h.2 y v e
theorem Fx.J{l:Yb<|Str×V}{σ:St}{H:Hp}(h:Fx σ H l){y:Yg}{v:V}:Fx (σ.F y v) H<|GJ y v l:=⟨h.1,λx w e=>by
 refine jk (xx.symm.trans e) λu e1 e2=>ku.trans ?_;by_cases q:x=y;.rw[d9 q]at e2|-;rw[e2]
 .rw[d8 q]at e2|-;exact e2▸h.2 x u e1⟩
theorem Fx.I{l:Yb<|Str×V}{σ:St}{H:Hp}(h:Fx σ H l)(y:Yg)(v:V):Fx (σ.F y v) H<|(y,v)::l:=⟨h.1,λx w e=>by
 refine ku.trans ?_;by_cases q:x=y;.subst q;exact(d9 Y7).trans<|by simpa[n3]using e
 .exact(d8 q).trans<|h.2 x w<|by simpa[n3,rL q]using e⟩
theorem Fx.N{l:Yb<|Str×V}{σ:St}{H:Hp}{y:Yg}{v:V}(h:Fx σ H l)(a:σ.I y v):Fx σ H<|(y,v)::l:=⟨h.1,λx w q=>by
 by_cases z:x=y;.subst z;exact a.trans<|by simpa[n3]using q
 .exact h.2 x w<|by simpa[n3,rL z]using q⟩
theorem Fx.O{σ:St}{H:Hp}{y:Yg}{v:V}(e:σ.h=H)(h:σ.I y v):Fx σ H [(y,v)]:=Fx.N ⟨e,λz z q=>lz q⟩ h
theorem Fx.L{l l':Yb<|Str×V}{σ:St}{H:Hp}(h:Fx σ H l)(e:l'.map (λp=>l.lookup p.1)=l'.map λp=>Y6 p.2):Fx σ H l':=⟨h.1,λx v q=>h.2 x v<|List.map_inj_left.mp e _<|qX q⟩
theorem zA{l:Yb<|Str×V}{σ:St}{H:Hp}{x:Yg}{v:V}{e:X}{r:S}{cx:Sx}{Q:Fl->St->Prop}(h:Fx σ H l)(u:ev cx.c e σ=.c v σ)(k:∀σ',Fx σ' H ((x,v)::l)->Gd (ex r cx σ') Q):Gd (ex (.d (.a x e) r) cx σ) Q:=kb u<|k _<|h.I x v
theorem Fx.F{l:Yb<|Str×V}{σ:St}{H:Hp}(h:Fx σ H l)(y:Yg)(v:V)(e:l.lookup y=Y8):Fx (σ.F y v) H l:=⟨h.1,λx w q=>by refine ku.trans<|(d8 ?_).trans<|h.2 x w q;rintro rfl;rw[e]at q;cases q⟩
def LK(x:Yg)(k j p:Y9)(m:Mk):Yb<|Str×V:=[("self",.g k),("code",.f x),("continuation",.d (m.c:Y9)),("level",.d (m.a:Y9)),("lno",.d (m.b:Y9)),("goodlines",.g j),("push_good",.o j),("i",.d (p:Y9)),("n",.d (x.length:Y9))]
def B1(x:Yg)(k j:Y9)(H:Hp)(p:Y9)(m:Mk)(σ:St):Prop:=Fx σ (km H j<|.a<|kj m.d)<|LK x k j p m
def Ql(q w first:Y9):Yb<|Str×V:=[("quote",.f ⟨(lh q w).toArray⟩),("w",.d (w:Y9)),("firstlno",.d (first:Y9))]
def Qs(q w first:Y9)(l:Yb<|Str×V):Prop:=∀x v,(Ql q w first).lookup x=Y6 v->l.lookup x=Y6 v
section
variable{x:Yg}{k j p q w first:Y9}{H:Hp}{m:Mk}{σ:St}
theorem B1.L(h:B1 x k j H p m σ){y:Yg}{v:V}(hy:(LK x k j p m).lookup y=Y8):B1 x k j H p m<|σ.F y v:=Fx.F h y v hy
theorem B1.u(h:B1 x k j H p m σ){i:Yh}(hi:i=(q:Y9)):B1 x k j H q m<|σ.F "i"<|.d i:=by subst hi;exact Fx.J h
theorem B1.F(h:B1 x k j H p m σ){i:Yh}(hi:i=(q:Y9)):B1 x k j H p {m with c:=q}<|σ.F "continuation"<|.d i:=by subst hi;exact Fx.J h
theorem B1.J(h:B1 x k j H p m σ){i:Yh}(hi:i=(q:Y9)):B1 x k j H p {m with a:=q}<|σ.F "level"<|.d i:=by subst hi;exact Fx.J h
theorem B1.I(h:B1 x k j H p m σ){i:Yh}(hi:i=(q:Y9)):B1 x k j H p {m with b:=q}<|σ.F "lno"<|.d i:=by subst hi;exact Fx.J h
theorem Qs.u(h:Qs q w first σ.l){y:Yg}{v:V}(hy:(Ql q w first).lookup y=Y8):Qs q w first (σ.F y v).l:=(Fx.F (σ:=σ) (H:=σ.h) ⟨Y7,h⟩ y v hy).2
end
theorem Du{a:V}{H:Hp}:nz "len" [a] H=Bn a H:=Y7
section
variable{cx:Sx}{G:tS}{σ:St}{Q:Fl->St->Prop}{x:Yg}{k j p:Y9}{H:Hp}{m:Mk}
theorem Dv{cx:Cx}{c d:Y9}{z:Yg}(hz:z=⟨#[d]⟩)(h:σ.I "ch"<|.f ⟨#[c]⟩):ev cx (.j .Eq "ch"<|.h z) σ=.c (.j<|decide<|c=d) σ:=by
 rw[jW (qA h) Y7,hz];congr 2;by_cases e:c=d;.subst e;simp
 .rw[n9 e];simpa using e
theorem zv{c d:Y9}{z:Yg}{a r:S}(hz:z=⟨#[d]⟩)(h:σ.I "ch"<|.f ⟨#[c]⟩)(h1:c=d->Gd (ex a cx σ) (zu r cx Q))(h2:c≠d->Gd (ex r cx σ) Q):Gd (ex (.d (.h (.j .Eq "ch"<|.h z) a .g) r) cx σ) Q:=qM (Dv hz h) (λq=>h1<|k9 q)<|λq=>h2<|eE q
theorem LM(B:Bx G cx)(h:B1 x k j H p m σ)(hz:m.d.length<=2000){r:S}(hk:∀σ',B1 x k j H p {m with d:=if m.a=0 then m.d++[m.b]else m.d} σ'->σ'.l=σ.l->Gd (ex r cx σ') Q):Gd (ex (.d (.h (.j .Eq "level"<|.k 0) (.d (.j<|.n "push_good"<|jm "lno") .g) .g) r) cx σ) Q:=by
 refine qM (xQ (qA<|h.g "level" Y7) Y7) (λe=>?_)<|λe=>?_;.rw[d9<|by simpa using e]at hk;exact zF (v:=.none) (zE (qA<|h.g "push_good" Y7) (qD (qA<|h.g "lno" Y7) Y7) (by
   rw[B.f,h.1];show((sv<|(km H j<|.a<|kj m.d).o j).map λxs=>(j,xs)).elim Rs.b _=_;erw[mi];refine(d9<|by
    unfold kj;rw[n5];have:k8=16777216:=by decide
    exact ew hz this).trans ?_;show nj .none (km (km H j<|.a<|kj m.d) j<|.a<|kj m.d++[.d (m.b:Y9)])=_;erw[C9];unfold kj;erw[eQ];rfl:cx.i (.o j) [.d (m.b:Y9)] σ.h=nj .none (km H j<|.a<|kj<|m.d++[m.b])))<|qC<|hk _ ⟨Y7,h.2⟩ Y7
 .rw[d8<|by simpa using e]at hk;exact hk σ h Y7
theorem LN{t:Y9}{a b:Yh}(hp:p<=x.length)(F:a=(p:Y9))(u:b=((p+t:Y9):Yh)):yO H (.f x) (.d a) (.d b)=.b (.f ⟨((x.cps.toList.drop p).take t).toArray⟩):=by subst F u;exact by show Ov.b (.f ⟨(qh x.cps.toList (Y6 ((p:Y9):Yh))<|some ((p+t:Y9):Yh)).toArray⟩)=_;rw[LJ _<|by exact hp]
end
inductive ww(x:Yg)(k j:Y9)(H:Hp)(R:Mk)(n:Y9)(σ:St):Prop where|mk(n' p:Y9)(m:Mk)(h1:n'<=n)(h2:p<=x.length)(h3:m.d.length<=p+1)(h4:B1 x k j H p m σ)(h5:kr n' .a (x.cps.toList.drop p) m=Y6 R)
inductive yt(x:Yg)(k j:Y9)(H:Hp)(R:Mk)(q w first:Y9)(n:Y9)(σ:St):Prop where|mk(n' p:Y9)(m:Mk)(h1:n'<=n)(h2:p<=x.length)(h3:m.d.length<=p+1)(h4:B1 x k j H p m σ)(h5:Qs q w first σ.l)(h6:kr n' (.b q w first) (x.cps.toList.drop p) m=Y6 R)
section
variable{cx:Sx}{G:tS}{σ:St}{x:Yg}{k j p n c q w first:Y9}{H:Hp}{m R:Mk}{l:Ln}
theorem AN:("\n":Yg)=⟨#[10]⟩:=jg
theorem LO:("\\":Yg)=⟨#[92]⟩:=jg
theorem xS:("x":Yg)=⟨#[120]⟩:=jg
theorem LP{cx:Cx}{d:Y9}(hs:x.length<=1000)(h:B1 x k j H p m σ)(hd:x.cps.toList.drop p=d::l):ev cx (.j .Eq (.q "code" "i")<|.h "\n") σ=.c (.j<|decide<|d=10) σ:=by
 rw[jW (xE (qA<|h.g "code" Y7) (qA<|h.g "i" Y7)<|Dt hs hd) Y7,AN];congr 2;by_cases e:d=10;.subst e;rfl
 .rw[n9 e];simpa using e
theorem Dw{cx:Cx}(h:B1 x k j H p m σ):ev cx (.j .Lt "i" "n") σ=.c (.j<|decide<|p<x.length) σ:=by
 rw[uL (qA<|h.g "i" Y7)<|qA<|h.g "n" Y7];congr 2;by_cases e:p<x.length;.rw[i7 e,i7<|by simp[e]]
 .rw[n9 e,n9<|by simp[e]]
def Ul(x:Yg)(k j:Y9)(H:Hp)(R:Mk)(q w first n:Y9)(f:Fl)(σ':St):Prop:=match f with|.a=>yt x k j H R q w first n σ'|.c=>yt x k j H R q w first n σ'|.d=>ww x k j H R n σ'|.b _=>False
theorem Um(B:Bx G cx)(hs:x.length<=1000)(h:B1 x k j H p m σ)(F:Qs q w first σ.l)(hz:m.d.length<=p+1)(hd:x.cps.toList.drop p=c::l)(u:kr (n+1) (.b q w first) (c::l) m=Y6 R):Gd (ex inB cx σ)<|Ul x k j H R q w first n:=by
 have hp:=vQ hd;have I:=kF hd;refine kb (xE (qA<|h.g "code" Y7) (qA<|h.g "i" Y7)<|Dt hs hd) ?_;obtain hch:=@qH σ "ch"<|.f ⟨#[c]⟩;obtain h:=h.L (y:="ch") (v:=.f ⟨#[c]⟩) (by rfl);obtain F:=F.u (y:="ch") (v:=.f ⟨#[c]⟩) (by rfl);generalize σ.F "ch" (.f ⟨#[c]⟩)=σ at h hch F⊢;refine kb (qS (qA<|h.g "i" Y7) Y7) ?_;obtain hch:=@qG σ "i" "ch" (.d<|(p:Yh)+1) _ iu hch;replace h:=h.u (i:=(p:Yh)+1) (q:=p+1) Y7;replace F:=F.u (y:="i") (v:=.d<|(p:Yh)+1) (by rfl);generalize σ.F "i" (.d<|(p:Yh)+1)=σ at h hch F⊢;refine zv xS hch (λe=>?_) λe1=>?_;.replace u:=(d9 e).symm.trans u;exact xA ⟨n,p+1,m,j7 _,hp,n7 hz,h,F,by erw[I];exact u⟩
 replace u:=(d8 e1).symm.trans u;refine qM (jW (vK (qA<|h.g "code" Y7) (kJ (qA<|h.g "i" Y7) Y7) (qS (qA<|h.g "i" Y7)<|qA<|F "w" _ Y7)<|LN (p:=p) (t:=w+1) (n6 hp) (by simp)<|by simp+arith)<|qA<|F "quote" _ Y7) (λe=>?_) λe2=>?_
 .obtain e':(c::l).take (w+1)=lh q w:=by refine pd hd ?_;exact gL e
  obtain u:=(d9 e').symm.trans u;obtain hL:=vH (n6 hp) hd;refine kb (qS (qA<|h.g "i" Y7)<|qA<|F "w" _ Y7)<|qF<|q9<|⟨n,p+1+w,m,j7 _,g8 (eJ<|v3 (_+1) _)<|g8 (r6 (by have:=i6 Ys e';unfold lh at this;simp only[dF,iF,m4]at this;exact u7<|g8 (eJ this.symm)<|fR (_+1)<|_+1)<|_+1)<|eJ<|(m5 _ 1 _).symm.trans hL,g8 hz<|m7 _<|_+1,h.u<|by rfl,?_⟩;refine pd lT<|zJ5 I ?_;exact u
 replace u:=(d8<|by refine pd hd ?_;intro N;rw[show(⟨(List.take (w+1)<|List.drop p x.cps.toList).toArray⟩:Yg).cps.toList=List.take (w+1) (List.drop p x.cps.toList)from Y7,N,show(⟨(lh q w).toArray⟩:Yg).cps.toList=lh q w from Y7]at e2;simp at e2).symm.trans u;refine zv AN hch (λe=>?_) λL=>?_
 .replace u:=(d9 e).symm.trans u;refine kb (qS (qA<|h.g "lno" Y7) Y7) ?_;obtain h:=h.I (i:=(m.b:Yh)+1) (q:=m.b+1) Y7;obtain F:=F.u (y:="lno") (by rfl);generalize σ.F "lno" (.d<|(m.b:Yh)+1)=σ at h F⊢;refine qM (xQ (qA<|F "w" _ Y7) Y7) (λe=>?_) λe=>?_
  .replace u:=(d9<|by simpa using e).symm.trans u;refine LM B h (g8 hz<|g8 hp<|g8 hs iu) λσ' O z=>qF<|q9 ⟨n,p+1,_,j7 _,hp,?_,O,by erw[I];exact u⟩;split;.refine zJ5 j9<|?_;exact w6 hz
   .exact n7 hz
  .replace u:=(d8<|by simpa using e).symm.trans u;exact xA ⟨n,p+1,_,j7 _,hp,by exact n7 hz,h,F,by erw[I];exact u⟩
 replace u:=(d8 L).symm.trans u;refine zv LO hch (λe=>?_) λS=>?_;.replace u:=(d9 e).symm.trans u;cases J:l with|nil=>rw[J]at u;cases u|cons d l'=>
   rw[J]at u I;obtain hp2:=vQ I;obtain hd2:=kF I;refine qY (by exact zJ5 (Dw h)<|zJ5 (i7 hp2) Y7)<|qM (LP hs h I) (λe=>?_) λe=>?_;.dsimp only at u;rw[d9<|k9 e]at u;refine kb (qS (qA<|h.g "lno" Y7) Y7)<|qC ?_;obtain h:=h.I (i:=(m.b:Yh)+1) (q:=m.b+1) Y7;obtain F:=F.u (y:="lno") (by rfl);generalize σ.F "lno" (.d<|(m.b:Yh)+1)=σ at h F⊢;exact kb (qS (qA<|h.g "i" Y7) Y7)<|xA<|⟨n,p+1+1,_,j7 _,hp2,by exact g8 hz<|m7 _ 2,h.u Y7,F.u<|by rfl,by erw[hd2];exact u⟩
   .dsimp only at u;rw[d8<|eE e]at u;exact kb (qS (qA<|h.g "i" Y7) Y7)<|xA<|⟨n,p+1+1,m,j7 _,hp2,g8 hz<|m7 _ 2,h.u Y7,F.u<|by rfl,by erw[hd2];exact u⟩
 replace u:=(d8 S).symm.trans u;exact qC ⟨n,p+1,m,j7 _,hp,n7 hz,h,F,by erw[I];exact u⟩
end
end Mine.Lake.L09
namespace Mine.Lake.L09
open PySem PySem.W PyProof.Rows Mine.Lake Mine.Lake.Rp MineTop
section
variable{cx:Sx}{G:tS}{σ:St}{x:Yg}{k j p n c q w first:Y9}{H:Hp}{m R:Mk}{l:Ln}{pp:dE}
theorem Dx(B:Bx (qd pp) cx):cx.p "C_BACKSLASH"=Y6 (.d 1):=by erw[B.b];rfl
theorem LR(B:Bx (qd pp) cx):cx.p "C_STRING_NEXT_LINES"=Y6 (.d 3):=by erw[B.b];rfl
theorem GK(B:Bx (qd pp) cx):cx.p "C_BRACKET"=Y6 (.d 4):=by erw[B.b];rfl
theorem Bv(B:Bx (qd pp) cx):cx.p "len"=Y6 (.m<|.builtin "len"):=by erw[B.b];rfl
theorem yt.mono{u:Y9}(h:yt x k j H R q w first n σ)(F:n<=u):yt x k j H R q w first u σ:=by obtain⟨a,b,c,h1,h2,h3,h4,h5,I⟩:=h;exact⟨a,b,c,g8 h1 F,h2,h3,h4,h5,I⟩
theorem ww.mono{u:Y9}(h:ww x k j H R n σ)(F:n<=u):ww x k j H R u σ:=by obtain⟨a,b,c,h1,h2,h3,h4,h5⟩:=h;exact⟨a,b,c,g8 h1 F,h2,h3,h4,h5⟩
theorem Un(B:Bx (qd pp) cx)(h:B1 x k j H p m σ)(F:Qs q w first σ.l):Gd (ex K7 cx σ) λf σ'=>f=.a/\B1 x k j H p {m with c:=if m.b=first+1 then 2 else 3} σ':=by
 refine yK (xQ (kJ (qA<|h.g "lno" Y7) Y7)<|qA<|F "firstlno" _ Y7) (λe=>?_)<|λe=>?_;.erw[d9<|Int.ofNat_inj.mp<|Int.sub_eq_iff_eq_add.mp<|gL e];exact kb (qQ<|by erw[B.b];rfl)<|qC<|qC ⟨Y7,h.F Y7⟩
 .erw[d8<|by
   intro u;rw[u]at e;have:((first+1:Y9):Yh)-1=first:=by simp
   simp at e];exact kb (qQ<|LR B)<|qC<|qC ⟨Y7,h.F Y7⟩
theorem Uo(B:Bx (qd pp) cx)(hs:x.length<=1000)(I:n<=1000)(h:yt x k j H R q w first n σ):Gd (ex Kb cx σ) λf σ'=>f=.a/\ww x k j H R n σ':=by refine xB (λfuel σ=>yt x k j H R q w first (Ze fuel n) σ) (by erw[fE I];exact h) ?_;rintro fuel σ⟨u,p,m,hn',hp,hz,h,hq,he⟩;cases u with|zero=>exact lz he|succ u=>
 obtain hf:u+1<=fuel:=g8 hn'<|mL ..;have F:u+1<=n:=g8 hn'<|fR ..;refine⟨fuel-1,(iZ<|g8 (bA 1 u) hf).symm,_,σ,_,Dw h,Y7,λe=>?_,λe=>?_⟩;.cases hd:x.cps.toList.drop p with|nil=>have:=(by have:=vH hp hd;simp_all:p=x.length);have:=k9 e;lia|cons c l=>rw[hd]at he;refine(Um B hs h hq hz hd he).mono λf σ' r=>?_;obtain hm:u<=Ze (fuel-1) n:=Nat.le_min.mpr ⟨gW hf,n6 F⟩;cases f with|a=>exact yt.mono r hm|c=>exact yt.mono r hm|d=>exact⟨Y7,ww.mono r<|n6 F⟩|b v=>exact r.elim
 .obtain hd:x.cps.toList.drop p=[]:=lE (by refine zJ5 (fk hp e) ?_;exact j7 _);rw[hd]at he;refine(Un B h hq).mono ?_;rintro f σ'⟨rfl,h'⟩;exact⟨Y7,u,p,{m with c:=if m.b=first+1 then 2 else 3},n6 F,hp,hz,h',by erw[hd];exact he⟩
theorem LS{c:Y9}{H:Hp}:Ay H .Mult (.f ⟨#[c]⟩) (.d 3)=.b (.f ⟨([c,c,c]:Ln).toArray⟩):=by show(if(3:Yh)=3/\(⟨#[c]⟩:Yg).length=1 then Ov.b<|V.f<|⟨#[c]⟩++⟨#[c]⟩++⟨#[c]⟩else .a)=_;refine bj ⟨Y7,Y7⟩ ?_;rfl
theorem Ca{y:Yg}(B:Bx (qd pp) cx){z:Yg}(h:σ.l.lookup z=Y6 (.f y)):ev cx.c (.n (.g "len")<|.d (.v z) .l) σ=.c (.d (y.length:Y9)) σ:=zE (σ':=⟨σ.h,[],[],Y8⟩) (qQ<|Bv B) (qD (qA h) Y7)<|by rw[B.a,Du];rfl
theorem LU(B:Bx (qd pp) cx)(hs:x.length<=1000)(F:n<=1000)(h:B1 x k j H p m σ)(hp:p+w<=x.length)(hz:m.d.length<=p+1)(I:σ.I "quote"<|.f ⟨(lh q w).toArray⟩)(J:kr n (.b q w m.b) (x.cps.toList.drop<|p+w) m=Y6 R):Gd (ex Kc cx σ) λf σ'=>f=.c/\ww x k j H R n σ':=by
 refine zA (h.N I) (qA<|h.g "lno" Y7) λσ u=>zA u (kJ (Ca B<|u.g "quote" Y7) Y7) ?_;rw[(by
  have:(⟨(lh q w).toArray⟩:Yg).length=w+1:=by show(lh q w).toArray.size=_;rw[dT];unfold lh;rw[iF]
  exact ZS.mpr<|i6 Nat.cast this:((⟨(lh q w).toArray⟩:Yg).length:Yh)-1=(w:Y9))];refineλσ u=>zA u (qS (qA<|u.g "i" Y7)<|qA<|u.g "w" Y7) λσ u=>qK<|(Uo B hs F ⟨n,p+w,m,j7 _,hp,g8 hz<|m9<|m7 _ _,(u.L<|by rfl:B1 x k j H (p+w) m σ),(u.L (l':=Ql q w m.b)<|by rfl).2,J⟩).mono ?_;rintro f σ'⟨rfl,h'⟩;exact xA ⟨Y7,h'⟩
def LV(x:Yg)(k j:Y9)(H:Hp)(R:Mk)(n:Y9)(f:Fl)(σ:St):Prop:=(f=.a\/f=.c)/\ww x k j H R n σ
theorem Up(B:Bx (qd pp) cx)(hs:x.length<=1000)(h:B1 x k j H (p+1) m σ)(hz:m.d.length<=p+1)(J:σ.I "ch"<|.f ⟨#[c]⟩)(u:(if c=35 then if 10∈l then kr n .a (l.dropWhile (·≠10)) m else Y8 else if c=92 then match l with|[]=>Y8|d::l=>kr n .a l<|if d=10 then{m with b:=m.b+1,c:=if l=[]then 1 else m.c}else m else Y8)=Y6 R)(hd:x.cps.toList.drop p=c::l):Gd (ex K8 cx σ)<|LV x k j H R n:=by
 have hp:=vQ hd;obtain F:=kF hd;refine zv (by decide+kernel:("#":Yg)=⟨#[35]⟩) J (λe=>?_)<|λe1=>?_
 .replace u:=(d9 e).symm.trans u;by_cases hm:10∈l
  .replace u:=(d9 hm).symm.trans u;refine bo (Uj hp F hm) λr e1 e2 N=>kb (qT (σ':=⟨σ.h,[],[],Y8⟩) (v:=.d (r:Y9)) (qA<|h.g "code" Y7) (by erw[B.c];refine ?_;have:rg "find"=Y6 "str.find":=bj Y7 Y7;refine ?_;rfl) (qD Y7<|qD (qA<|h.g "i" Y7) Y7) ?_) ?_;.rw[B.a];show nz "str.find" [.f x,.f "\n",.d ((p+1:Y9):Yh)] _=_;refine ?_;show nj (.d<|gE x ⟨#[10]⟩ ((p+1:Y9):Yh)) σ.h=_;erw[e1];rfl
   obtain h':=h.u Y7;exact qY (by exact zJ5 (wA (qA<|h'.g "i" Y7) Y7)<|rfl)<|xA<|⟨.inr Y7,n,r,m,j7 _,n6 e2,g8 hz<|n7<|by
    rcases pW r<|p+1with c'|c';.exfalso;exact g9 ((vH (n6 e2) N).trans (vH hp F).symm)<|v9<|w6<|dS (eF _).length_le<|dG c'
    .exact c',h',by erw[N];exact u⟩
  .replace u:=bc hm u;cases u
 replace u:=(d8 e1).symm.trans u;by_cases e2:c=92;.replace u:=(d9 e2).symm.trans u;cases L:l with|nil=>replace u:=L▸u;cases u|cons d l'=>
   replace u:=L▸u;replace F:=L▸F;dsimp only at u;obtain hp2:=vQ F;obtain hd2:=kF F;refine qY (by exact zJ5 (Dv LO J)<|zJ5 (i7 e2) Y7)<|qY (by exact zJ5 (Dw h)<|zJ5 (i7 hp2) Y7)<|qM (LP hs h F) (λe=>?_) λe=>?_
   .rw[d9<|k9 e]at u;refine kb (qS (qA<|h.g "lno" Y7) Y7) ?_;obtain h:=h.I (i:=(m.b:Yh)+1) (q:=m.b+1) Y7;generalize σ.F "lno" (.d<|(m.b:Yh)+1)=σ at h⊢;have I:l'=[]↔p+1+1=x.length:=by
     have:=vH hp2 hd2;constructor;.rintro rfl;simp_all
     .intro O;exact fN<|by simp_all
    refine qM (xQ (qS (qA<|h.g "i" Y7) Y7)<|qA<|h.g "n" Y7) (λe=>?_) λe=>?_;.rw[d9<|I.mpr<|dn (a:=p+1+1) e]at u;refine kb (qQ<|Dx B)<|qC<|qC ?_;obtain h:=h.F (i:=1) (q:=1) Y7;generalize σ.F "continuation" (.d 1)=σ at h⊢;exact kb (qS (qA<|h.g "i" Y7) Y7)<|qC<|⟨.inl Y7,n,p+1+1,_,j7 _,hp2,by exact g8 hz<|m7 _ 2,h.u Y7,by erw[hd2];exact u⟩
    .rw[d8<|λO=>by have:=I.mp O;rw[show((p+1:Y9):Yh)+1=(x.length:Y9)from i6 Nat.cast this]at e;simp at e]at u;exact qC<|kb (qS (qA<|h.g "i" Y7) Y7)<|qC<|⟨.inl Y7,n,p+1+1,_,j7 _,hp2,by exact g8 hz<|m7 _ 2,h.u Y7,by erw[hd2];exact u⟩
   .rw[d8<|eE e]at u;exact kb (qS (qA<|h.g "i" Y7) Y7)<|qC<|⟨.inl Y7,n,p+1+1,m,j7 _,hp2,g8 hz<|m7 _ 2,h.u Y7,by erw[hd2];exact u⟩
 .replace u:=bc e2 u;cases u
theorem Uq(B:Bx (qd pp) cx)(hs:x.length<=1000)(N:n<=1000)(h:B1 x k j H p m σ)(hz:m.d.length<=p+1)(hd:x.cps.toList.drop p=c::l)(u:kr (n+1) .a (c::l) m=Y6 R):Gd (ex Ke cx σ)<|LV x k j H R n:=by
 have hp:=vQ hd;have I:=kF hd;refine kb (xE (qA<|h.g "code" Y7) (qA<|h.g "i" Y7)<|Dt hs hd) ?_;obtain F:=@qH σ "ch"<|.f ⟨#[c]⟩;replace h:=h.L (y:="ch") (v:=.f ⟨#[c]⟩) (by rfl);generalize σ.F "ch" (.f ⟨#[c]⟩)=σ at h F⊢;refine kb (qS (qA<|h.g "i" Y7) Y7) ?_;replace F:=@qG σ "i" "ch" (.d<|(p:Yh)+1) _ iu F;replace h:=h.u (i:=(p:Yh)+1) (q:=p+1) Y7;generalize σ.F "i" (.d<|(p:Yh)+1)=σ at h F⊢;refine zv xS F (λe=>?_) λe1=>?_;.replace u:=(d9 e).symm.trans u;exact xA ⟨.inr Y7,n,p+1,m,j7 _,hp,n7 hz,h,by erw[I];exact u⟩
 replace u:=(d8 e1).symm.trans u;refine zv AN F (λe=>?_) λe2=>?_
 .obtain u:=(d9 e).symm.trans u;refine kb (qS (qA<|h.g "lno" Y7) Y7) ?_;replace h:=h.I (i:=(m.b:Yh)+1) (q:=m.b+1) Y7;refine LM B h (g8 hz<|g8 hp<|g8 hs iu) λσ' J z=>xA ⟨.inr Y7,n,p+1,_,j7 _,hp,?_,J,by erw[I];exact u⟩;split;.refine zJ5 j9<|?_;exact w6 hz
  .exact n7 hz
 replace u:=(d8 e2).symm.trans u;refine zv (by decide+kernel:("(":Yg)=⟨#[40]⟩) F (λe=>?_)<|λO=>?_;.replace u:=(d9 e).symm.trans u;exact kb (qS (qA<|h.g "level" Y7) Y7)<|xA ⟨.inr Y7,n,p+1,_,j7 _,hp,by exact n7 hz,h.J (q:=m.a+1) Y7,by erw[I];exact u⟩
 replace u:=(d8 O).symm.trans u;refine zv (by decide+kernel:(")":Yg)=⟨#[41]⟩) F (λe=>?_)<|λT=>?_
 .replace u:=(d9 e).symm.trans u;refine qK<|zL (qA<|h.g "level" Y7) (t:=Yk<|m.a≠0) ?_ (λe=>?_) λe=>?_
  .show Y6 (((m.a:Y9):Yh)!=0)=_;congr 1;by_cases e0:m.a=0;.erw[e0];rfl
   .erw[i7 e0];simpa using e0
  .exact kb (kJ (qA<|h.g "level" Y7) Y7)<|qC<|xA ⟨.inr Y7,n,p+1,_,j7 _,hp,by exact n7 hz,h.J (q:=m.a-1)<|ck<|w5<|k9 e,by erw[I];exact u⟩
  .obtain e0:m.a=0:=by simpa using eE e
   rw[(by cases m;simp only at e0;subst e0;rfl:({m with a:=m.a-1}:Mk)=m)]at u;exact qC<|xA ⟨.inr Y7,n,p+1,m,j7 _,hp,n7 hz,h,by erw[I];exact u⟩
 obtain u:=(d8 T).symm.trans u;refine qM (yb (Dv (by decide+kernel:("\"":Yg)=⟨#[34]⟩) F)<|λz=>Dv (by decide+kernel:("'":Yg)=⟨#[39]⟩) F) (λe=>?_) λe=>?_;.obtain u:=(d9<|by simpa using e).symm.trans u;refine(by
    obtain hp:=vQ hd;obtain I:=kF hd;obtain hL:=vH (n6 hp) hd;refine kb (qA F) ?_;obtain hq:=@qH σ "quote"<|.f ⟨#[c]⟩;obtain h:=h.L (y:="quote") (v:=.f ⟨#[c]⟩) (by rfl);generalize σ.F "quote" (.f ⟨#[c]⟩)=σ at h hq⊢;refine qM (jW (vK (qA<|h.g "code" Y7) (kJ (qA<|h.g "i" Y7) Y7) (qS (qA<|h.g "i" Y7) Y7)<|LN (p:=p) (t:=3) (n6 hp) (by simp)<|by rfl)<|uM (qA hq) Y7 LS) (λe=>?_) λe=>?_
    .have L:(c::l).take 3=[c,c,c]:=by refine pd hd ?_;exact gL e
     obtain u:=bi L u;obtain h3:=i6 Ys L;rw[dF,m4]at h3;refine kb (uM (qA hq) Y7 LS)<|qC<|LU (q:=c) (w:=2) B hs N (h.L<|by rfl) (gn hL h3) (n7 hz) qH ?_;refine pd lT<|zJ5 I ?_;exact u
    .replace u:=bc (by refine pd hd ?_;intro S;have e2:((List.drop p x.cps.toList).take 3==[c,c,c])=Yc:=e;rw[S]at e2;simp at e2) u;exact LU (q:=c) (w:=0) B hs N h hp (n7 hz) hq<|by rw[rX,I];exact u:Gd (ex Kd cx σ) λf σ'=>f=.c/\ww x k j H R n σ').mono ?_;rintro f σ'⟨rfl,J⟩;exact⟨.inr Y7,J⟩
 .obtain u:=(d8<|by simpa using e).symm.trans u;exact Up B hs h hz F u hd
theorem Ur(B:Bx (qd pp) cx)(hs:x.length<=1000)(I:n<=1000)(h:ww x k j H R n σ):Gd (ex Kf cx σ) λf σ'=>f=.a/\∃p,B1 x k j H p R σ'/\R.d.length<=1001:=by refine xB (λfuel σ=>ww x k j H R (Ze fuel n) σ) (by erw[fE I];exact h) ?_;rintro fuel σ⟨u,p,m,hn',hp,hz,h,he⟩;cases u with|zero=>exact lz he|succ u=>
 obtain hf:u+1<=fuel:=g8 hn'<|mL ..;have F:u+1<=n:=g8 hn'<|fR ..;refine⟨fuel-1,(iZ<|g8 (bA 1 u) hf).symm,_,σ,_,Dw h,Y7,λe=>?_,λe=>?_⟩;.cases hd:x.cps.toList.drop p with|nil=>have:=(by have:=vH hp hd;simp_all:p=x.length);have:=k9 e;lia|cons c l=>
   rw[hd]at he;refine(Uq B hs (g8 (t9 F) I) h hz hd he).mono λf σ' r=>?_;obtain hm:u<=Ze (fuel-1) n:=Nat.le_min.mpr ⟨gW hf,n6 F⟩;obtain⟨rfl|rfl,r⟩:=r;.exact ww.mono r hm
   .exact ww.mono r hm
 .obtain hpe:p=x.length:=fk hp e;have hd:x.cps.toList.drop p=[]:=lE (by refine zJ5 hpe ?_;exact j7 _);rw[hd]at he;cases he;exact qC ⟨Y7,p,h,g8 hz<|m9<|g8 hp hs⟩
end
noncomputable abbrev ly:=Yb<|Str×V
structure PO(H:Hp)(k d:Y9)(fs:ly):Prop where b:H.o k=Y6 (.c 266 d)dict:H.o d=Y6 (.dict fs)c:k≠d
theorem PO.N{H:Hp}{k d:Y9}{fs fs':ly}(h:PO H k d fs):PO (km H d<|.dict fs') k d fs':=⟨(qE h.c).trans h.b,mi,h.c⟩
theorem PO.S{H:Hp}{k d j:Y9}{fs:ly}(h:PO H k d fs)(h1:k≠j)(h2:d≠j){o:O}:PO (km H j o) k d fs:=⟨(qE h1).trans h.b,(qE h2).trans h.dict,h.c⟩
section
variable{cx:Sx}{pp:dE}{H:Hp}{k d j:Y9}{fs:ly}
theorem PO.at(h:PO H k d fs):jS (qd pp) (.g k) H=Y6 (k,d,fs):=by show(H.o k).bind _=_;erw[h.b];show(H.o d).bind _=_;erw[h.dict];show(if(266:YF)=266 then Y6 (k,d,fs)else Y8)=_;exact d9 Y7
theorem LW{xs:Yb V}(h:H.o j=Y6 (.a xs)):jS (qd pp) (.g j) H=Y8:=by show(H.o j).bind _=_;erw[h];rfl
theorem PO.I(B:Bx (qd pp) cx)(h:PO H k d fs){f:Yg}{v:V}(u:ty.contains f)(hv:fs.lookup f=Y6 v)(F:Gb v):cx.m (.g k) f H=.b v:=by erw[B.d];unfold yZ;erw[h.at];refine(d9 u).trans ?_;erw[hv];exact d9 F
theorem PO.J(B:Bx (qd pp) cx)(h:PO H k d fs){f:Yg}{v:V}(F:ty.contains f)(u:fs.length<=100):cx.q (.g k) f v H=Y6 (km H d<|.dict<|kn f v fs):=by erw[B.e];unfold Ge;erw[h.at];exact d9 ⟨F,u⟩
theorem LX(B:Bx (qd pp) cx){xs:Yb V}(h:H.o j=Y6 (.a xs)):cx.m (.g j) "append" H=.b (.o j):=by erw[B.d];unfold yZ;erw[LW h];show(if("append":Yg)="append"then(xk H<|.g j).elim Ov.a λq=>Ov.b<|.o q.1else Ov.a)=_;refine(d9 Y7).trans ?_;show((sv<|H.o j).map λxs=>(j,xs)).elim Ov.a _=_;erw[h];rfl
end
def sd:Yb Yg:=["indentwidth","tabwidth","code","study_level","goodlines","continuation","stmt_start","stmt_end","lastch","lastopenbracketpos","stmt_bracketing"]
theorem LY:∀n,n<=11->∀i,i<11->(sd.getD i ""∈sd.take n↔i<n):=jg
theorem Us:∀n,n<11->sd.take n++[sd.getD n ""]=sd.take (n+1):=jg
def Kx(fs:ly)(m:Y9):Prop:=∃n,m<=n/\n<=11/\fs.map (·.1)=sd.take n
theorem Ut{f:Yg}{v:V}:∀{fs:ly},(kn f v fs).map (·.1)=if f∈fs.map (·.1)then fs.map (·.1)else fs.map (·.1)++[f]:=by intro I;induction I with|nil=>exact  Y7|cons zp r F=>
  obtain⟨y,u⟩:=zp;erw[D8];by_cases h:(f==y)=Ye;.refine zJ5 (d9 h)<|zJ5 (d9<|by rw[gL h];exact .head _) ?_;rfl
  .erw[d8 h];show y::(kn f v r).map (·.1)=_;erw[F];by_cases hm:f∈r.map (·.1);.refine zJ5 (d9 hm)<|zJ5 (d9<|.tail _ hm) ?_;rfl
   .refine zJ5 (d8 hm)<|zJ5 (d8<|λq=>by
     rcases Yn.mp q with q|q;.exactλq=>h<|by rw[q];simp q
     .exact hm q) ?_;rfl
theorem Kx.J{fs:ly}{m i:Y9}(h:Kx fs m)(hi:i<11)(u:i<=m){f:Yg}(F:sd.getD i ""=f){v:V}:Kx (kn f v fs)<|max m<|i+1:=by
 subst F;refine bo h λn h1 h2 h3=>?_;unfold Kx;refine zJ5 Ut<|zJ5 h3 ?_;by_cases q:i<n;.erw[d9<|(LY n h2 i hi).mpr q];exact⟨n,Nat.max_le.mpr ⟨h1,q⟩,h2,Y7⟩
 .obtain e:i=n:=fQ (g8 u h1)<|Nat.not_lt.mp q;erw[d8<|λw=>q<|(LY n h2 i hi).mp w];subst e;exact⟨i+1,Nat.max_le.mpr ⟨n7 h1,j7 _⟩,hi,Us i hi⟩
theorem Kx.L{fs:ly}{m m':Y9}(h:Kx fs m)(hm:m'<=m):Kx fs m':=am h λn h1 h2=>⟨n,g8 hm h1,h2⟩
theorem Kx.I{fs:ly}{m:Y9}(h:Kx fs m):fs.length<=100:=by refine bo h λn h1 h2 h3=>?_;have:=i6 Ys h3;rw[n5,dF]at this;rw[this];exact g8 (mL _ _)<|g8 h2 iu
theorem Uu{y:Yg}:∀{fs:ly},y∉fs.map (·.1)->fs.lookup y=Y8:=by intro I;induction I with|nil=>exactλw=>Y7|cons zp r F=>obtain⟨z,u⟩:=zp;intro h;simp only[n3,(Yl.mpr λq=>h<|q▸.head _:(y==z)=Yc)];exact F λq=>h<|.tail _ q
theorem Kx.m{fs:ly}{m:Y9}(h:Kx fs m){y:Yg}(hy:y∉sd):fs.lookup y=Y8:=by refine bo h λn z z h3=>Uu λq=>hy ?_;rw[h3]at q;exact gX q
theorem qZ{y:Yg}{v:V}:∀{fs:ly},(kn y v fs).lookup y=Y6 v:=by intro I;induction I with|nil=>show n3 y [(y,v)]=Y6 v;simp|cons zp r F=>
  obtain⟨z,u⟩:=zp;rw[D8];by_cases h:(y==z)=Ye;.rw[d9 h,n3,h]
  .rw[d8 h,n3];rw[Zl.mpr h];exact F
theorem qB{x y:Yg}{v:V}(F:(x==y)=Yc):∀{fs:ly},(kn y v fs).lookup x=fs.lookup x:=by intro J;induction J with|nil=>show n3 x [(y,v)]=Y8;rw[n3,F];rfl|cons zp r I=>
  obtain⟨z,u⟩:=zp;rw[D8];by_cases h:(y==z)=Ye;.obtain e:y=z:=gL h;subst e;rw[d9 h,n3,F,n3,F]
  .rw[d8 h,n3,n3,I]
structure FsP(fs:ly)(iw tw:Yh)(x:Yg)(l:Yh):Prop where
 t:Kx fs 4
 iw:fs.lookup ("indentwidth":Yg)=Y6 (.d iw)tw:fs.lookup ("tabwidth":Yg)=Y6 (.d tw)code:fs.lookup ("code":Yg)=Y6 (.f x)v:fs.lookup ("study_level":Yg)=Y6 (.d l)
theorem FsP.S{fs:ly}{iw tw:Yh}{x:Yg}{l l':Yh}(h:FsP fs iw tw x l):FsP (kn "study_level" (.d l') fs) iw tw x l':=⟨(h.t.J (i:=3) iu iu jg).L iu,(qB iu).trans h.iw,(qB iu).trans h.tw,(qB iu).trans h.code,qZ⟩
def mz(H:Hp)(d:Y9)(D L:O):Hp:={o:=λi=>if i=H.n then Y6 L else if i=d then Y6 D else H.o i,n:=H.n+1}
def base(H:Hp)(d:Y9)(D:O):Hp:={o:=λi=>if i=d then Y6 D else H.o i,n:=H.n+1}
theorem Uv{H:Hp}{d:Y9}{D D' L:O}(h:d≠H.n):km (mz H d D L) d D'=mz H d D' L:=by
 refine i6 (λo=>Hp.mk o<|H.n+1)<|funext λj=>?_;show(if j=d then Y6 D' else if j=H.n then Y6 L else if j=d then Y6 D else H.o j)=if j=H.n then Y6 L else if j=d then Y6 D' else H.o j;by_cases h1:j=d;.subst h1;exact zJ5 (d9 Y7)<|zJ5 (d8 h)<|zJ5 (d9 Y7) Y7
 .exact zJ5 (d8 h1)<|zJ5 (d8 h1)<|zJ5 (d8 h1) Y7
theorem Uw{H:Hp}{d:Y9}{D D' L:O}(h:d≠H.n):km (Hp.add (km H d D) L) d D'=mz H d D' L:=by
 refine i6 (λo=>Hp.mk o<|H.n+1)<|funext λj=>?_;show(if j=d then Y6 D' else if j=H.n then Y6 L else if j=d then Y6 D else H.o j)=if j=H.n then Y6 L else if j=d then Y6 D' else H.o j;by_cases h1:j=d;.subst h1;exact zJ5 (d9 Y7)<|zJ5 (d8 h)<|zJ5 (d9 Y7) Y7
 .exact zJ5 (d8 h1)<|zJ5 (d8 h1)<|zJ5 (d8 h1) Y7
section
variable{cx:Sx}{pp:dE}{σ:St}{x:Yg}{k d j p:Y9}{H:Hp}{m R:Mk}{fs:ly}
theorem Ux{gl:Ln}{a:Y9}(h:gl.getLast?=Y6 a)(u:gl.length<=2000){σ:St}{j:Y9}{H:Hp}(hp:σ.h=km H j (.a<|kj gl)):qw σ.h (.g j) (.d<|-1)=.b (.d (a:Y9)):=by
 obtain hne:gl.length≠0:=by rintro q;rw[fN q]at h;cases h
 refine xV (xs:=kj gl) (j:=gl.length-1) Y7 ?_ iu ?_ ?_;.rw[hp];show(match(km H j<|.a<|kj gl).o j with|some<|.a xs=>Y6 xs|_=>Y8)=_;exact zJ5 mi Y7
 .unfold kj;rw[n5];exact(by unfold YL;rw[(by refine bj iu ?_;exact(pR _ _).trans<|ck<|w5 hne:(if(-1:Yh)<0 then(-1:Yh)+gl.length else-1)=((gl.length-1:Y9):Yh))];exact(d9<|by rw[j0];exact⟨i7<|cD _,i7<|Int.ofNat_lt.mpr<|iO (w5 hne) iu⟩).trans<|i6 Y6<|eH _:YL (-1) gl.length=Y6 (gl.length-1))
 .unfold kj;rw[iW];rw[eP]at h;rw[h];rfl
theorem LZ{a b:Y9}:((a:Yh)==(b:Yh))=Yk (a=b):=by
 by_cases e:a=b;.subst e;simp
 .rw[n9 e];exact Yl.mpr λq=>e<|Int.ofNat_inj.mp q
theorem Uy(B:Bx (qd pp) cx){D:O}(hd:d≠H.n)(h:B1 x k H.n (base H d D) p m σ)(I:PO (mz H d D<|.a<|kj m.d) k d fs)(N:Kx fs 5)(u:m.d.length<=1001){a:Y9}(L:m.d.getLast?=Y6 a)(J:Yk (m.c=0)=Yk (a=m.b)):Gd (ex Gn cx σ)<|Dr<|mz H d (.dict<|kn "continuation" (.d (m.c:Y9)) fs)<|.a<|kj<|if a=m.b then m.d else m.d++[m.b]:=by
 refine qF<|xW (qA<|h.g "continuation" Y7) (qA<|h.g "self" Y7) (H:=mz H d (.dict<|kn "continuation" (.d (m.c:Y9)) fs)<|.a<|kj m.d) ?_ ?_;.exact zJ5 h.1<|zJ5 (I.J B iu N.I)<|zJ5 (Uv hd) Y7
 obtain h2:B1 x k H.n (base H d<|.dict<|kn "continuation" (.d (m.c:Y9)) fs) p m {σ with h:=mz H d (.dict<|kn "continuation" (.d (m.c:Y9)) fs)<|.a<|kj m.d}:=⟨Y7,h.2⟩;generalize({σ with h:=mz H d (.dict<|kn "continuation" (.d (m.c:Y9)) fs)<|.a<|kj m.d}:St)=σ at h2⊢;obtain hi:=Ux L (g8 u iu) h2.1;refine qY ?_ ?_;.rw[Ug (xQ (qA<|h2.g "continuation" Y7)<|qQ<|by erw[B.b];rfl)<|xQ (xE (qA<|h2.g "goodlines" Y7) uK hi)<|qA<|h2.g "lno" Y7,LZ,show(((m.c:Y9):Yh)==0)=Yk (m.c=0)from LZ (b:=0),J,iI]
 refine qM (Dq (xE (qA<|h2.g "goodlines" Y7) uK hi)<|qA<|h2.g "lno" Y7) (λe=>?_)<|λe=>?_;.erw[d8<|by rintro rfl;simp at e];exact zF (zE (qA<|h2.g "push_good" Y7) (qD (qA<|h2.g "lno" Y7) Y7) (by
   rw[B.f,h2.1];show((sv<|(km (base H d<|.dict<|kn "continuation" (.d (m.c:Y9)) fs) H.n<|.a<|kj m.d).o H.n).map λxs=>(H.n,xs)).elim Rs.b _=_;erw[mi];refine(d9<|by
    unfold kj;rw[n5];have:k8=16777216:=by decide
    exact gp u this).trans ?_;show nj .none (km (km (base H d<|.dict<|kn "continuation" (.d (m.c:Y9)) fs) H.n<|.a<|kj m.d) H.n<|.a<|kj m.d++[.d (m.b:Y9)])=_;refine zJ5 C9<|?_;unfold kj;erw[eQ];rfl:cx.i (.o H.n) [.d (m.b:Y9)] σ.h=nj .none (mz H d (.dict<|kn "continuation" (.d (m.c:Y9)) fs)<|.a<|kj<|m.d++[m.b])))<|qC<|qC ⟨Y7,Y7⟩
 .erw[d9<|by
   have:((a:Yh)==(m.b:Yh))=Ye:=by cases F:(a:Yh)==(m.b:Yh)with|true=>rfl|false=>rw[bne,F]at e;exact su e
   exact dn this];exact qC ⟨Y7,h2.1⟩
theorem Uz(B:Bx (qd pp) cx){D:O}(hd:d≠H.n)(h:B1 x k H.n (base H d D) p R σ)(T:PO (mz H d D<|.a<|kj R.d) k d fs)(Y:Kx fs 5)(X:R.d.length<=1001)(J:R.d≠[]){gl:Ln}{c:Y9}(u:sm R=Y6 (gl,c)):Gd (ex K9 cx σ)<|Dr<|mz H d (.dict<|kn "continuation" (.d (c:Y9)) fs)<|.a<|kj gl:=by
 unfold sm at u;dsimp only at u;obtain⟨a,S⟩:∃a,R.d.getLast?=Y6 a:=⟨R.d.getLast J,w8 J⟩;have F:R.d.getLast?=Y6 R.b↔a=R.b:=by erw[S];exact⟨λq=>c0 q,λq=>i6 Y6 q⟩
 have I:∀(c':Y9)(σ:St),(if R.c≠2/\R.c≠3/\0<R.a then 4 else R.c)=c'->B1 x k H.n (base H d D) p {R with c:=c'} σ->Gd (ex Gn cx σ) λf σ'=>f=.a/\σ'.h=mz H d (.dict<|kn "continuation" (.d (c:Y9)) fs) (.a<|kj gl):=by
  intro c' σ N V;rw[N]at u;by_cases L:Yk (c'=0)=Yk (R.d.getLast?=Y6 R.b)
  .replace u:=bi L u;obtain e:=c0 u;obtain e1:(if R.d.getLast?=Y6 R.b then R.d else R.d++[R.b])=gl:=i6 Prod.fst e;obtain e2:c'=c:=i6 Prod.snd e;clear e u;subst e2;refine pd (by
    rw[<-e1];by_cases q:a=R.b;.rw[d9 q,d9<|F.mpr q]
    .rw[d8 q,d8 λU=>q<|F.mp U]:(if a=R.b then R.d else R.d++[R.b])=gl) ?_;exact Uy B hd V T Y X (a:=a) S<|by erw[L];exact y_.mpr F
  .replace u:=bc L u;cases u
 refine qM (t:=Yk (R.c≠2)&&(Yk (R.c≠3)&&Yk (0<R.a))) (vB (p:=Yk<|R.c≠2) ?_ λz=>vB (p:=Yk<|R.c≠3) ?_ λz=>?_) (λe=>?_)<|λe=>?_
 .erw[Dq (qA<|h.g "continuation" Y7)<|qQ<|by refine zJ5 B.b ?_;rfl];congr 2;by_cases e:R.c=2;.erw[e];rfl
  .erw[i7 e];simpa using(sR Y7 Y7 e:¬((R.c:Y9):Yh)=2)
 .erw[Dq (qA<|h.g "continuation" Y7)<|qQ<|LR B];congr 2;by_cases e:R.c=3;.erw[e];rfl
  .erw[i7 e];simpa using(sR Y7 Y7 e:¬((R.c:Y9):Yh)=3)
 .erw[GH (qA<|h.g "level" Y7) Y7];congr 2;by_cases e:0<R.a;.erw[i7 e];exact i7<|by simp[e]
  .erw[n9 e];exact n9<|by simp[e]
 .exact kb (qQ<|GK B)<|qC<|I 4 _ (d9<|by rw[j0,j0]at e;exact⟨k9 e.1,k9 e.2.1,k9 e.2.2⟩)<|h.F Y7
 .exact I R.c σ (d8<|by rintro⟨h1,h2,h3⟩;rw[i7 h1,i7 h2,i7 h3]at e;exact su e) h
theorem UA(B:Bx (qd pp) cx)(hs:x.length<=1000)(hd:d<H.n)(hk:k<H.n)(h1:σ.I "self"<|.g k)(h2:σ.I "code"<|.f x)(S:σ.h=km H d (.dict fs))(F:PO σ.h k d fs)(N:Kx fs 4)(V:kr 1000 .a x.cps.toList ⟨0,0,[0],0⟩=Y6 R){gl:Ln}{c:Y9}(U:sm R=Y6 (gl,c))(T:R.d≠[]):Gd (ex Kg cx σ)<|Dr<|mz H d (.dict<|kn "continuation" (.d (c:Y9))<|kn "goodlines" (.g H.n) fs)<|.a<|kj gl:=by
 obtain u:=(Fx.O S h2).N h1;rw[S]at F;have I:d≠H.n:=v9 hd;have J:k≠H.n:=v9 hk;obtain hPg:∀(D:ly)(L:O),PO (mz H d (.dict D) L) k d D:=λD L=>by refine⟨?_,(d8 I).trans<|d9 Y7,F.c⟩;.obtain e:=F.b;rw[qE F.c]at e;exact(d8 J).trans<|(d8 F.c).trans e
 refine zA u (qQ<|by erw[B.b];rfl) λσ u=>qF<|C7 (v:=.d 0) (a7:=σ) Y7 ?_;obtain u:=(u.I "level"<|.d 0).I "lno"<|.d 0;generalize(σ.F "level"<|.d 0).F "lno" (.d 0)=σ at u⊢;obtain hnx:σ.n=(km H d<|.dict fs).n:=i6 Hp.n u.1;obtain hnx:σ.n=H.n:=hnx;refine qF<|U3 (xs:=[.d 0]) (a7:=σ) (H:=mz H d (.dict<|kn "goodlines" (.g H.n) fs)<|.a [.d 0]) (xP (qD Y7 Y7) iu) (qA<|u.g "self" Y7) ?_ ?_;.rw[<-u.1]at F;exact zJ5 ((by obtain e:∀i,i≠H.n->(σ.add<|.a [.d 0]).o i=σ.o i:=λi hi=>d8 (by rw[hnx];exact hi);exact⟨(e k J).trans F.b,(e d I).trans F.dict,F.c⟩:PO (σ.add<|.a [.d 0]).h k d fs).J B iu N.I)<|zJ5 (by show Hp.add σ.h _=_;rw[u.1]:(σ.add<|.a [.d 0]).h=Hp.add (km H d<|.dict fs) (.a [.d 0]))<|zJ5 hnx<|zJ5 (Uw I) Y7
 erw[hnx];obtain u:=Fx.I (⟨Y7,u.2⟩:Fx ({σ.add<|.a [.d 0]with h:=mz H d (.dict<|kn "goodlines" (.g H.n) fs)<|.a [.d 0]}:St) (mz H d (.dict<|kn "goodlines" (.g H.n) fs)<|.a [.d 0]) _) "goodlines"<|.g H.n;generalize({σ.add<|.a [.d 0]with h:=mz H d (.dict<|kn "goodlines" (.g H.n) fs)<|.a [.d 0]}:St).F "goodlines" (.g H.n)=σ at u⊢;obtain hG:Kx (kn "goodlines" (.g H.n) fs) 5:=N.J (i:=4) iu iu jg;generalize kn "goodlines" (.g H.n) fs=fs' at u hG;refine zA u (qR (qA<|u.g "goodlines" Y7)<|LX B (xs:=[.d 0])<|by erw[u.1];exact d9 Y7) λσ u=>qF<|C5 (zt (qD Y7<|qD (Ca B<|u.g "code" Y7) Y7)<|by show 2<=k8;decide) ?_;obtain u:=(u.I "i"<|.d 0).I "n"<|.d (x.length:Y9);generalize(σ.F "i"<|.d 0).F "n" (.d (x.length:Y9))=σ at u⊢;obtain hB:B1 x k H.n (base H d<|.dict fs') 0 ⟨0,0,[0],0⟩ σ:=u.L (by rfl);refine qK<|(Ur (R:=R) B hs (j7 1000) ⟨1000,0,_,j7 _,v8 _,by decide,hB,V⟩).mono ?_;rintro f σ'⟨rfl,p,hB',hl⟩;exact Uz B I hB' (hPg _ _) hG hl T U
theorem UB(B:Bx (qd pp) cx)(hd:d<H.n)(hk:k<H.n)(U:PO H k d fs){iw tw:Yh}(N:FsP fs iw tw x 0)(hs:tB x){gl:Ln}{c:Y9}(X:uo (qy<|tz<|x.cps.toList.map ko)=Y6 (gl,c))(T:∀R,kr 1000 .a (qy<|tz<|x.cps.toList.map ko) ⟨0,0,[0],0⟩=Y6 R->R.d≠[]){l:Yb<|Str×V}(h1:l.lookup ("self":Yg)=Y6 (.g k)){ce:Yb<|Str×Y9}:Gd (ex uP cx {h:=H,l:=l,e:=ce})<|Dr<|mz H d (.dict<|kn "continuation" (.d (c:Y9))<|kn "goodlines" (.g H.n)<|kn "study_level" (.d 1) fs)<|.a<|kj gl:=by
 refine am (U9 Lo hs) λO e1 e2=>bC λZ=>?_;obtain⟨R,S,Y⟩:∃R,kr 1000 .a (qy<|tz<|x.cps.toList.map ko) ⟨0,0,[0],0⟩=Y6 R/\sm R=Y6 (gl,c):=ji X;refine Z ?_;have F:({h:=H,l:=l,e:=ce}:St).I "self"<|.g k:=h1;have u:PO ({h:=H,l:=l,e:=ce}:St).h k d fs:=U;obtain hH':({h:=H,l:=l,e:=ce}:St).h=H:=Y7;generalize({h:=H,l:=l,e:=ce}:St)=σ at F u hH'⊢;refine qM (wA (qR (qA F)<|u.I B iu N.v Y7) Y7) (λq=>g9 q iu) λz=>qF<|xW (a7:=σ) (v:=.d 1) Y7 (qA F) (u.J B iu N.t.I) ?_;obtain hP2:PO ({σ with h:=km σ.h d<|.dict<|kn "study_level" (.d 1) fs}:St).h k d _:=u.N;have I:({σ with h:=km σ.h d<|.dict<|kn "study_level" (.d 1) fs}:St).I "self"<|.g k:=F;have J:({σ with h:=km σ.h d<|.dict<|kn "study_level" (.d 1) fs}:St).h=km H d (.dict<|kn "study_level" (.d 1) fs):=by exact pd hH' Y7
 generalize({σ with h:=km σ.h d<|.dict<|kn "study_level" (.d 1) fs}:St)=σ at hP2 I J⊢;have L:=N.S (l':=1);generalize kn "study_level" (.d 1) fs=fs2 at hP2 J L⊢;exact kb (qR (qA I)<|hP2.I B iu L.code Y7)<|U4 (f:=ko) (v:=x) (v':=O) qH (vt:=.m<|.ref 108) (by erw[B.b];rfl) (by erw[B.g];rfl) e1<|UA B (by
  obtain h3:O.cps.toList.length<=x.cps.toList.length:=by erw[e2];refine g8 (vU iu _ _)<|g8 (vU iu _ _)<|g8 (vU iu _ _)<|g8 (vU iu _ _)<|g8 (vU iu _ _) ?_;rw[n5];exact j7 _
  exact g8 h3 hs.2) hd hk (ru<|ru I) qH J hP2 L.t (by erw[e2];exact S) Y<|T R S
end
abbrev T(pp:dE)(n:Y9):Sx:=rk (qd pp) mq 172 n
section
variable{pp:dE}{n k d j:Y9}{H:Hp}{fs:ly}{x:Yg}
theorem wW{f:YF}{sc:Yt}{ps:Yb Yg}{b:S}{args:Yb V}{cx:Sx}{F:Fl}{σ':St}{v:V}(u:mq.lookup f=Y6 (sc,ps,b))(I:args.length=ps.length)(J:ex b cx (oh (ps.zip args) H)=.c F σ')(L:sk F σ'=.c v σ')(hc:uV sc ps:=by kernel_rfl):zS mq cx f args H=.c v σ':=by unfold zS;rw[u];dsimp only;unfold sx;rw[d9 I,Ry hc,Rs.u J,L]
theorem jM{f:YF}(u:f≠266/\f≠78/\(zr f).isNone){args:Yb V}:∀n,(T pp<|n+1).i (.m<|.ref f) args H=zS mq (T pp n) f args H|0=>(d8 u.2.1).trans<|by rw[show(qd pp).e f=Y8 from v_.mp u.2.2];rfl|_+1=>(d8 u.2.1).trans<|by rw[show(qd pp).e f=Y8 from v_.mp u.2.2];exact d8 u.1
theorem jV{f:YF}{sc:Yt}{ps:Yb Yg}{b:S}{args:Yb V}{v:V}(Q:Hp->Prop)(I:f≠266/\f≠78/\(zr f).isNone)(u:mq.lookup f=Y6 (sc,ps,b))(J:args.length=ps.length)(h:∀σ:St,σ.l=ps.zip args->σ.h=H->Gd (ex b (T pp n) σ) λf σ'=>sk f σ'=.c v σ'/\Q σ'.h)(hc:uV sc ps:=by kernel_rfl):∃σ',(T pp<|n+1).i (.m<|.ref f) args H=.c v σ'/\Q σ'.h:=by refine bC λF=>?_;obtain⟨L,σ',e,r,w⟩:=h (oh (ps.zip args) H) Y7 Y7;refine F ?_;exact⟨σ',by rw[jM I];exact wW u J e r hc,w⟩
theorem PO.L{cx:Sx}(B:Bx (qd pp) cx)(h:PO H k d fs){m:Yg}{a:YF}(hm:fs.lookup m=Y8)(u:th.lookup m=Y6 a):cx.k (.g k) m H=Y6 (.m<|.ref a,[.g k]):=by erw[B.c];show(jS (qd pp) (.g k) H).elim _ _=_;erw[h.at];refine(d9 hm).trans ?_;show(th.lookup m).map _=_;erw[u];rfl
structure AO(fs:ly)(iw tw:Yh):Prop where
 a:Kx fs 2
 iw:fs.lookup ("indentwidth":Yg)=Y6 (.d iw)tw:fs.lookup ("tabwidth":Yg)=Y6 (.d tw)
theorem AO.u{fs:ly}{iw tw:Yh}(h:AO fs iw tw)(x:Yg):FsP (kn "study_level" (.d 0)<|kn "code" (.f x) fs) iw tw x 0:=⟨(h.a.J (i:=2) iu iu jg).J (i:=3) iu iu jg,(qB iu).trans<|(qB iu).trans h.iw,(qB iu).trans<|(qB iu).trans h.tw,(qB iu).trans qZ,qZ⟩
theorem UC(hs:x.length<=1000){l:Ln}{c:Y9}(u:x.cps.toList=l++[c]):qw H (.f x) (.d<|-1)=.b (.f ⟨#[c]⟩):=by
 obtain hl:x.length=l.length+1:=by have:=i6 Ys u;rw[n8,j9,gA]at this;exact this
 refine FP (j:=l.length) iu (by unfold YL;erw[(by refine bj iu ?_;exact gh hl:(if(-1:Yh)<0 then(-1:Yh)+x.length else-1)=((l.length:Y9):Yh))];exact(d9<|by rw[j0];exact⟨i7<|by simp,i7<|Int.ofNat_lt.mpr<|by rw[hl];exact u8 _⟩).trans<|i6 Y6<|eH _) ?_;rw[<-dP,u,cA<|j7 _,gV];rfl
def UD(x:Yg):Prop:=x.cps.toList=[]\/∃l,x.cps.toList=l++[10]
theorem M2(hs:x.length<=1000)(u:UD x)(F:PO H k d fs){iw tw:Yh}(L:AO fs iw tw):∃σ',(T pp<|n+1).i (.m<|.ref 179) [.g k,.f x] H=.c .none σ'/\σ'.h=km H d (.dict<|kn "study_level" (.d 0)<|kn "code" (.f x) fs):=by
 obtain B:=GI (G:=qd pp) (rows:=mq) (fI:=172) n;refine jV (·=km H d (.dict<|kn "study_level" (.d 0)<|kn "code" (.f x) fs)) iu (by rfl) Y7 λσ J h3=>?_;obtain h1:σ.l.lookup ("self":Yg)=Y6 (.g k):=by erw[J];rfl
 have h2:σ.l.lookup ("s":Yg)=Y6 (.f x):=by erw[J];rfl
 refine qY ?_ ?_;.obtain e1:=xQ (Ca B h2)<|show ev (T pp n).c (.k 0) σ=.c (.d 0) σ from Y7;exact(by intro q I;rw[I]at e1;cases q with|true=>exact yb (q:=Ye) e1<|λh=>su h|false=>
    refine yb (q:=Ye) e1<|λz=>?_;rcases u with u|⟨l,u⟩;.exfalso;rw[(by have:=i6 Ys u;rw[n8]at this;exact this:x.length=0)]at I;exact su I
    .refine zJ5 (jW (xE (qA h2) uK<|UC hs u) Y7)<|?_;rfl:∀q:Yj,(((x.length:Y9):Yh)==0)=q->ev (T pp n).c (.H (.j .Eq (jn "s")<|.k 0)<|.j .Eq (.q "s"<|.B<|.k 1)<|.h "\n") σ=.c (.j Ye) σ) _ Y7
 rw[<-h3]at F⊢;exact qF<|xW (qA h2) (qA h1) (F.J B iu L.a.I)<|qF<|xW (v:=.d 0) Y7 (qA h1) ((F.N).J B iu (L.a.J (i:=2) iu iu jg).I)<|qC ⟨Y7,C9⟩
structure sy(H:Hp)(k d:Y9)(fs:ly)(iw tw:Yh)(x:Yg)(gl:Ln)(c:Y9):Prop where
 e:PO H k d fs
 k:k<H.n
 d:d<H.n
 fs:FsP fs iw tw x 0
 a:tB x
 b:uo (qy<|tz<|x.cps.toList.map ko)=Y6 (gl,c)f:∀R,kr 1000 .a (qy<|tz<|x.cps.toList.map ko) ⟨0,0,[0],0⟩=Y6 R->R.d≠[]
def xy(fs:ly)(j c:Y9):ly:=kn "continuation" (.d (c:Y9))<|kn "goodlines" (.g j)<|kn "study_level" (.d 1) fs
theorem UE{iw tw:Yh}{gl:Ln}{c:Y9}(h:sy H k d fs iw tw x gl c):∃σ',(T pp<|n+1).i (.m<|.ref 200) [.g k] H=.c .none σ'/\σ'.h=mz H d (.dict<|xy fs H.n c) (.a<|kj gl):=by refine bC λu=>?_;obtain⟨f,σ',e,rfl,e2⟩:=UB (GI (G:=qd pp) (rows:=mq) (fI:=172) n) h.d h.k h.e h.fs h.a h.b h.f (l:=[("self",.g k)]) Y7 (ce:=[]);refine u ?_;refine⟨σ',?_,e2⟩;rw[jM iu];exact wW (by rfl) Y7 e Y7
structure M3(fs:ly)(iw tw:Yh)(x:Yg)(l:Yh)(j c:Y9):Prop extends FsP fs iw tw x l where
 z:Kx fs 6
 y:fs.lookup ("goodlines":Yg)=Y6 (.g j)w:fs.lookup ("continuation":Yg)=Y6 (.d (c:Y9))
end
end Mine.Lake.L09
namespace Mine.Lake.L09
open PySem PySem.W PyProof.Rows Mine.Lake Mine.Lake.Rp Mine.Lake.Re MineTop
def rz:Yg:="\n"
def na(x:Yg)(j:Yh):Yh:=kA x rz (mc x.length 0)<|min (mc x.length j) x.length
def back(x:Yg):Y9->Yh->Yh:=nr (λp=>p) λr p=>r<|na x (p-1)+1
def pq(code:Yp Y9)(x:Yg)(is:Yb Yh):Yd<|Option<|Nat×Y9:=if uT is then zG code x.cps (Ze (zB is).toNat x.cps.size) (Ze (zC is).toNat x.cps.size)else Y8
def rb(x:Yg)(gl:Ln):Y9->Y9->Yh->Yh->Yd (Y9×Yh×Yh):=nr (λz z z=>Y8) λf i p q=>match i with|0=>Y6 (0,p,q)|i+1=>if p=0 then Y8 else gl[i]?.bind λa=>gl[i+1]?.bind λb=>if Yy (a:Y9) (b:Y9) 1 then(pq mw x [back x (m6 (a:Y9) (b:Y9) 1).toNat p]).bind λr=>match r with|some _=>f i (back x (m6 (a:Y9) (b:Y9) 1).toNat p) p|none=>Y6 (i+1,back x (m6 (a:Y9) (b:Y9) 1).toNat p,p)else Y8
def lc(x:Yg)(i:Yh):Yd Yg:=if ow i then((YL i x.length).bind (x.cps[·]?)).map λc=>⟨#[c]⟩else Y8
def ln(l:Yb Yh):Yh:=(l.length:Y9)
structure S2 where
 p:Yh
 a:Yb Yh
 b:Yb<|Int×Yh
 c:Yg
def AP(x:Yg)(p:Yh):Y9->Yh->Yd Yh:=nr (λq=>Y8) λr i=>if i≥p then(lc x i).bind λc=>if u9 " \t\n" c=Ye then r (i-1)else Y6 i else Y6 i
def kK(x:Yg)(q:Yh)(s:S2):Yd S2:=(lc x s.p).bind λch=>if u9 "([{" ch then Y6 {p:=s.p+1,a:=s.a++[s.p],b:=s.b++[(s.p,ln<|s.a++[s.p])],c:=ch}else if u9 ")]}" ch then Y6 {p:=s.p+1,a:=s.a.dropLast,b:=s.b++[(s.p+1,ln s.a.dropLast)],c:=ch}else if ch="\""\/ch="'"then(pq kf x [s.p,q]).bind λr=>r.bind λm=>Y6 {p:=(m.2:Y9),a:=s.a,b:=s.b++[(s.p,ln s.a+1)]++[(((m.2:Y9):Yh),ln s.a)],c:=ch}else if ch="#"then if vP x rz (mc x.length s.p) (Ze (mc x.length q) x.length)+1>0 then Y6 {p:=vP x rz (mc x.length s.p) (Ze (mc x.length q) x.length)+1,a:=s.a,b:=s.b++[(s.p,ln s.a+1)]++[(vP x rz (mc x.length s.p) (Ze (mc x.length q) x.length)+1,ln s.a)],c:=s.c}else Y8 else if ch="\\"/\s.p+1<q then(lc x<|s.p+1).bind λd=>Y6 {s with p:=s.p+1+1,c:=if d=rz then s.c else ch++d}else Y8
def Dy(x:Yg)(q:Yh)(s:S2):Yd<|Bool×S2:=if s.a.length>1000\/s.b.length>1000 then Y8 else(pq lk x [s.p,q]).bind λr=>match r with|some m=>(AP x s.p 1000<|(m.2:Y9)-1).bind λi=>(if i≥s.p then lc x i else Y6 s.c).bind λl=>if((m.2:Y9):Yh)≥q then Y6 (Ye,{s with p:=(m.2:Y9),c:=l})else(kK x q {s with p:=(m.2:Y9),c:=l}).map λs=>(Yc,s)|none=>(kK x q s).map λs=>(Yc,s)
def uY(x:Yg)(q:Yh):Y9->S2->Yd S2:=nr (λz=>Y8) λf s=>if s.p<q then(Dy x q s).bind λr=>if r.1=Ye then Y6 r.2 else f r.2 else Y6 s
def zNn(o:Yd S2):Yd S2:=o.bind λs=>if s.a.length<=1000/\s.b.length<=1000 then Y6 s else Y8
structure R2 where
 a:Yh
 b:Yh
 s:S2
def qq(x:Yg)(a b:Yh):Yd R2:=(zNn<|uY x b 1000 ⟨a,[],[(a,0)],""⟩).map λs=>⟨a,b,s⟩
def kG(x:Yg)(gl:Ln):Yd R2:=if gl.length=0\/gl.length>1000 then Y8 else(rb x gl 1000 (gl.length-1) (x.length:Y9) 0).bind λr=>if r.1=0 then(if r.2.1=0 then qq x r.2.1 r.2.1 else Y8)else qq x r.2.1 r.2.2
def Bw(x:Yg):Y9->Yh->Yh->Yd (Yd<|Int×Yh):=nr (λq q=>Y8) λf i j=>if j<(x.length:Y9)then(pq pk x [j]).bind λr=>match r with|some m=>Y6<|some (i,(m.2:Y9)-1)|none=>f (gE x rz j+1)<|gE x rz j+1 else Y6 Y8
def kR(x:Yg):Y9->Yh->Yd Yh:=nr (λq=>Y8) λr j=>(lc x j).bind λc=>if u9 " \t" c then r (j+1)else Y6 j
def zP(x:Yg)(i j:Yh):Yg:=⟨(qh x.cps.toList (Y6 i)<|some j).toArray⟩
def vO(x:Yg)(o:Yh):Yd<|Str×Yj:=(Bw x 1000 (na x o+1)<|o+1).bind λr=>match r with|some m=>Y6 (zP x m.1 m.2,Yc)|none=>(kR x 1000<|na x o+1).map λj=>(zP x (na x o+1) j,Ye)
def Cb(x:Yg)(b:Yh):Y9->Yh->Yd Yh:=nr (λq=>Y8) λr j=>if j<b then(lc x j).bind λc=>if u9 " \t" c=Ye then r (j+1)else Y6 j else Y6 j
def Cd(x:Yg)(a b:Yh):Yd Yg:=(Cb x b 1000 a).map λj=>zP x a j
def Ce(x:Yg)(i lev:Yh)(ch:Yg):Yd Yj:=if lev=0/\ch="="then(if i=0 then Y6 Ye else(lc x<|i-1).map λc=>!ZL "=<>!" c).bind λp=>if p=Ye then(lc x<|i+1).map λd=>! d.cps.toList==[61]else Y6 Yc else Y6 Yc
def x7(x:Yg)(e:Yh):Y9->Yh->Yh->Yd (Yh×Yj):=nr (λq q=>Y8) λf i lev=>if i<e then(lc x i).bind λch=>if u9 "([{" ch then f (i+1)<|lev+1 else if u9 ")]}" ch then f (i+1)<|if lev=0 then lev else lev-1 else if ch="\""\/ch="'"then(pq kf x [i,e]).bind λr=>r.bind λm=>f (m.2:Y9) lev else if ch="#"then Y6 (i,Yc)else(Ce x i lev ch).bind λt=>if t then Y6 (i,Ye)else f (i+1) lev else Y6 (i,Yc)
def se(x:Yg):Y9->Yh->Yd Yh:=nr (λq=>Y8) λr i=>(lc x i).bind λc=>if u9 " \t\n" c then Y6 i else r<|i+1
def Dz(x:Yg)(e i:Yh)(f:Yj):Yd<|Int×Yj:=if f then(pq rt (zP x (i+1) e) []).map λm=>(i+1,m.isNone)else Y6 (i,Yc)
def Cf(x:Yg)(a:Yh):Yd Yg:=(kR x 1000 a).bind λsp=>(x7 x (gE x rz sp+1) 1000 sp 0).bind λr=>(Dz x (gE x rz sp+1) r.1 r.2).bind λu=>(if u.2 then Y6 u.1 else se x 1000 sp).map λi=>zP x a i
section
variable{pp:dE}{n k d j:Y9}{H:Hp}{σ:St}{Q:Fl->St->Prop}{x:Yg}
theorem bT:Bx (qd pp)<|T pp n:=GI n
theorem DA{i:YA}{args:Yb V}:∀n,(T pp n).i (.m<|.type i) args H=wq i args H|0=>Y7|1=>Y7|_+2=>Y7
theorem yN{args:Yb V}:wq "range" args H=Bo args H:=bj Y7 Y7
theorem UF{a:Yh}:Bo [.d a] H=if Yy 0 a 1 then nj (.q 0 a 1) H else .b:=Y7
theorem M5{a b:Yh}:Bo [.d a,.d b] H=if Yy a b 1 then nj (.q a b 1) H else .b:=Y7
theorem zV{cx:Sx}(B:Bx (qd pp) cx){o m:Yg}{i:YA}(hm:rg m=Y6 i):cx.k (.f o) m H=Y6 (.m<|.builtin i,[.f o]):=by erw[B.c];obtain e:xr (qd pp) (.f o) m H=(rg m).map λi=>(V.m<|.builtin i,[V.f o]):=Y7;refine zJ5 e<|zJ5 hm ?_;rfl
theorem M6{b:YF}{code:Yp Y9}{args:Yb V}(h:zr b=Y6 code):∀n,(T pp n).i (.m<|.ref b) args H=Br code args H|0=>(d8<|λq=>by subst q;exact lz h).trans<|by rw[show(qd pp).e b=Y6 code from h];rfl|1=>(d8<|λq=>by subst q;exact lz h).trans<|by rw[show(qd pp).e b=Y6 code from h];rfl|_+2=>(d8<|λq=>by subst q;exact lz h).trans<|by rw[show(qd pp).e b=Y6 code from h];rfl
theorem M7{e:X}{i:Yh}(hc:σ.I "code"<|.f x)(u:ev (T pp n).c e σ=.c (.d i) σ):ev (T pp n).c (.m "code" "rfind"<|.d (.h "\n")<|.d (.k 0)<|.d e .l) σ=.c (.d<|na x i) σ:=qT (σ':=⟨σ.h,[],[],Y8⟩) (qA hc) (zV bT<|by rfl) (qD Y7<|qD Y7<|qD u Y7)<|by rw[bT.a];show nz "str.rfind" [.f x,.f "\n",.d 0,.d i] _=_;rfl
set_option tactic.hygienic true in theorem yC{code:Array Nat}{is:List Int}{r:Option<|Nat×Nat}(h:(if uT is then zG code x.cps (min (zB is).toNat x.cps.size) (min (zC is).toNat x.cps.size)else none)=some r):vF code x is H=nj (ul r) H:=by
 unfold vF;split at h;.rename_i u;rw[d9 u,h];rfl
 .exact lz h
theorem M8{u:Yg}{b:YF}{code:Yp Y9}{e:X}{i:Yh}{r:Yd<|Nat×Y9}(hg:Dl u=Y6 (.m<|.ref b))(F:zr b=Y6 code)(hc:σ.I "code"<|.f x)(I:ev (T pp n).c e σ=.c (.d i) σ)(J:pq code x [i]=Y6 r):ev (T pp n).c (.n (.g u)<|.d "code"<|.d e .l) σ=.c (ul r) σ:=zE (σ':=⟨σ.h,[],[],Y8⟩) (qQ<|by rw[bT.b];exact hg) (qD (qA hc)<|qD I Y7)<|by rw[M6 F];show vF code x [i] σ.h=_;rw[yC J];rfl
theorem GL{u:Yg}{b:YF}{code:Yp Y9}{e f:X}{i l:Yh}{r:Yd<|Nat×Y9}(hg:Dl u=Y6 (.m<|.ref b))(F:zr b=Y6 code)(hc:σ.I "code"<|.f x)(J:ev (T pp n).c e σ=.c (.d i) σ)(I:ev (T pp n).c f σ=.c (.d l) σ)(L:pq code x [i,l]=Y6 r):ev (T pp n).c (.n (.g u)<|.d "code"<|.d e<|.d f .l) σ=.c (ul r) σ:=zE (σ':=⟨σ.h,[],[],Y8⟩) (qQ<|by rw[bT.b];exact hg) (qD (qA hc)<|qD J<|qD I Y7)<|by rw[M6 F];show vF code x [i,l] σ.h=_;rw[yC L];rfl
theorem GN{r:Yd<|Nat×Y9}:nc H (ul r)=Y6 r.isSome:=by cases r<;>rfl
theorem DB{z:X}{p e:Y9}(hz:ev (T pp n).c z σ=.c (.t p e) σ):ev (T pp n).c (.m z "end" .l) σ=.c (.d (e:Y9)) σ:=qT (σ':=⟨σ.h,[],[],Y8⟩) (first:=[.t p e]) (xs:=[]) hz (by rw[bT.c];rfl) Y7<|by rw[bT.a];show nz "re.Match.end" [.t p e] _=_;rfl
set_option tactic.hygienic true in theorem vA{z:Str}{i:Int}{e:X}{c:Str}(hc:σ.I "code"<|.f x)(I:ev (T pp n).c e σ=.c (.d i) σ)(hs:lc x i=some c):ev (T pp n).c (.q "code" e) σ=.c (.f c) σ:=by
 refine xE (qA hc) I ?_;unfold lc at hs;split at hs;.rename_i F;refine jk hs λa h1 u=>?_;subst u;have:qw σ.h (.f x) (.d i)=((YL i x.length).bind (x.cps[·]?)).elim .a λc=>.b<|.f ⟨#[c]⟩:=d9 F;refine zJ5 this<|zJ5 h1 ?_;rfl
 .cases hs
theorem zw{a b:X}{y z:Yg}(F:ev (T pp n).c a σ=.c (.f y) σ)(u:ev (T pp n).c b σ=.c (.f z) σ):ev (T pp n).c (.j .In a b) σ=.c (.j<|u9 z y) σ:=zR F u Y7
theorem M9{gl:Ln}{i a:Y9}(hj:H.o j=Y6 (.a<|kj gl))(hi:i<=1000)(h:gl[i]?=Y6 a):qw H (.g j) (.d (i:Y9))=.b (.d (a:Y9)):=by
 refine xV (xs:=kj gl) (j:=i) Y7 ?_ (vG (by simp)<|sZ Y7 Y7 hi) (vL ?_) ?_;.show(match H.o j with|some<|.a xs=>Y6 xs|_=>Y8)=_;exact zJ5 hj Y7
 .unfold kj;rw[n5];exact(Yv.mp h).1
 .unfold kj;rw[iW,h];rfl
def UG(x:Yg)(k:Y9)(j:Y9)(i:Y9)(p:Yh):Yb<|Str×V:=[("self",.g k),("code",.f x),("goodlines",.g j),("i",.d (i:Y9)),("p",.d p)]
def A1(x:Yg)(k j:Y9)(H:Hp)(i:Y9)(p:Yh)(σ:St):Prop:=Fx σ H<|UG x k j i p
theorem UH{i:Y9}{p q:Yh}{a b:Y9}{it:X}(h:A1 x k j H i p σ)(J:σ.I "q"<|.d q)(I:ev (T pp n).c it σ=.c (.q (a:Y9) (b:Y9) 1) σ):Gd (ex (.p "nothing" it Kq) (T pp n) σ) λf σ'=>f=.a/\A1 x k j H i (back x (m6 (a:Y9) (b:Y9) 1).toNat p) σ'/\σ'.I "q" (.d q):=by
 generalize hm:(m6 (a:Y9) (b:Y9) 1).toNat=m;refine Do I (xs:=(pZ m).map λ(i:Y9)=>V.d<|(a:Y9)+(i:Yh)*1) (by rw[<-hm];rfl) (λl σ=>∃u,A1 x k j H i u σ/\back x l.length u=back x m p/\σ.I "q" (.d q)) ⟨p,h,by rw[n5,List.length_range],J⟩ λl σ z=>by rw[<-hm];rfl ?_ ?_;.rintro y r σ⟨u,h',e,hq'⟩;obtain h2:=h'.F "nothing" y Y7;obtain hq':=@qG σ "nothing" "q" y _ iu hq';generalize σ.F "nothing" y=σ at h2 hq'⊢;refine kb (qS (M7 (h2.g "code" Y7)<|kJ (qA<|h2.g "p" Y7) Y7) Y7)<|qC ⟨_,h2.J,e,ru hq'⟩
 .rintro σ⟨u,h',e,hq'⟩;have F:u=back x m p:=e;subst F;exact⟨Y7,h',hq'⟩
def UI(gl:Ln)(x:Yg)(k j:Y9)(H:Hp)(r:Y9×Yh×Yh)(fuel:Y9)(σ:St):Prop:=∃i p q,i<gl.length/\A1 x k j H i p σ/\rb x gl fuel i p q=Y6 r
def UJ(x:Yg)(k j:Y9)(H:Hp)(r:Y9×Yh×Yh)(f:Fl)(σ':St):Prop:=f=.a/\A1 x k j H r.1 r.2.1 σ'/\(r.1≠0->σ'.I "q" (.d r.2.2))
theorem UK{gl:Ln}(hj:H.o j=Y6 (.a<|kj gl))(I:gl.length<=1000){i:Y9}{p q:Yh}{r:Y9×Yh×Yh}(hi:i<gl.length)(h:A1 x k j H i p σ)(hs:rb x gl 1000 i p q=Y6 r):Gd (ex Ks (T pp n) σ)<|UJ x k j H r:=by refine xB (UI gl x k j H r) ⟨i,p,q,hi,h,hs⟩ ?_;rintro fuel σ⟨i,p,q,hi,h,hs⟩;cases fuel with|zero=>cases hs|succ fuel=>refine⟨fuel,Y7,?_⟩;cases i with|zero=>obtain rfl:=c0 hs;exact⟨_,σ,Yc,qA<|h.g "i" Y7,Y7,(λq=>by cases q),λz=>qC ⟨Y7,h,λq=>g9 Y7 q⟩⟩|succ i=>
  refine⟨_,σ,Ye,qA<|h.g "i" Y7,?_,λz=>?_,λq=>by cases q⟩;.congr 1
  have u:=hs;by_cases hp:p=0;.obtain u:=bi hp u;cases u
  replace u:=bc hp u;refine jh u λa S u=>am (ji u) λb O u=>?_;by_cases F:Yy (a:Y9) (b:Y9) 1=Ye
  .obtain u:=bi F u;refine jh u λN J u=>qF<|LD (qA<|h.g "p" Y7) (by show Y6 (p !=0)=Y6 Ye;rw[l_.mpr hp])<|kb (qA<|h.g "p" Y7) ?_;have L:=@qH σ "q"<|.d p;replace h:=h.F "q" (.d p) Y7;generalize σ.F "q" (.d p)=σ at h L⊢;refine qK<|(UH h L<|by refine zE (σ':=⟨σ.h,[],[],Y8⟩) (qQ (v:=.m<|.type "range")<|by rw[bT.b];rfl) (qD (xE (qA<|h.g "goodlines" Y7) (kJ (qA<|h.g "i" Y7) Y7)<|by rw[(by simp:((i+1:Y9):Yh)-1=(i:Y9)),h.1];exact M9 hj (g8 (t9<|n6 hi) I) S)<|qD (xE (qA<|h.g "goodlines" Y7) (qA<|h.g "i" Y7)<|by rw[h.1];exact M9 hj (g8 (n6 hi) I) O) Y7) ?_;rw[DA,yN,M5,d9 F];rfl).mono ?_;rintro f σ'⟨rfl,h',hq'⟩;generalize back x (m6 (a:Y9) (b:Y9) 1).toNat p=p' at h' J u⊢;refine qK<|zL (M8 (b:=79) (code:=mw) (by rfl) (by rfl) (h'.g "code" Y7) (qA<|h'.g "p" Y7) J) GN (λe=>?_) λe=>?_;.cases N with|none=>cases e|some m=>exact kb (kJ (qA<|h'.g "i" Y7) Y7)<|qC<|qC ⟨i,p',p,n6 hi,by rw[(by simp:((i+1:Y9):Yh)-1=(i:Y9))];exact h'.J,u⟩
   .cases N with|some m=>cases e|none=>obtain rfl:=c0 u;exact qF<|q9 ⟨Y7,h',λz=>hq'⟩
  .replace u:=bc F u;cases u
end
section
variable{pp:dE}{n k d j js jb:Y9}{H:Hp}{σ:St}{Q:Fl->St->Prop}{x:Yg}{q:Yh}{s:S2}{fs:ly}{iw tw:Yh}{c g m:Y9}{p:Yh}
theorem wO{a b:V}:nz "list.append" [a,b] H=xD a b H:=Y7
theorem Ma{xs:Yb V}(h:H.o j=Y6 (.a xs)):nz "len" [.g j] H=nj (.d (xs.length:Y9)) H:=by
 refine ?_;show(lj H<|.g j).elim Rs.b _=_;have:lj H (.g j)=Y6 xs:=by show sv (H.o j)=_;erw[h];rfl
 erw[this];rfl
theorem GO{cx:Sx}(B:Bx (qd pp) cx){m:Yg}{i:YA}{xs:Yb V}(h:H.o j=Y6 (.a xs))(hm:Gf m=Y6 i):cx.k (.g j) m H=Y6 (.m<|.builtin i,[.g j]):=by erw[B.c];show De (qd pp) j m H=_;unfold De;erw[LW h];show((sv<|H.o j).map λxs=>(j,xs)).bind _=_;erw[h];erw[hm];rfl
def lg(l:Yb Yh):Yb V:=l.map .d
def qo(l:Yb<|Int×Yh):Yb V:=l.map λp=>.n [.d p.1,.d p.2]
def kT(H:Hp)(js jb:Y9)(st:Yb Yh)(br:Yb<|Int×Yh):Hp:=km (km H js<|.a<|lg st) jb<|.a<|qo br
theorem DC{st:Yb Yh}{br:Yb<|Int×Yh}(h:js≠jb):(kT H js jb st br).o js=Y6 (.a<|lg st):=(qE h).trans mi
theorem Mb{st u:Yb Yh}{br:Yb<|Int×Yh}(h:js≠jb):km (kT H js jb st br) js (.a<|lg u)=kT H js jb u br:=by
 refine i6 (λo=>Hp.mk o H.n)<|funext λi=>?_;show(if i=js then Y6<|O.a (lg u)else if i=jb then Y6<|O.a (qo br)else if i=js then Y6<|O.a (lg st)else H.o i)=if i=jb then Y6<|O.a (qo br)else if i=js then Y6<|O.a (lg u)else H.o i;by_cases h1:i=js;.subst h1;exact zJ5 (d9 Y7)<|zJ5 (d8 h)<|zJ5 (d9 Y7) Y7
 .exact zJ5 (d8 h1)<|zJ5 (d8 h1)<|zJ5 (d8 h1) Y7
theorem UL{st:Yb Yh}{br u:Yb<|Int×Yh}:km (kT H js jb st br) jb (.a<|qo u)=kT H js jb st u:=C9
def Mc(x:Yg)(k js jb:Y9)(q:Yh)(s:S2):Yb<|Str×V:=[("self",.g k),("code",.f x),("p",.d s.p),("q",.d q),("lastch",.f s.c),("stack",.g js),("push_stack",.o js),("bracketing",.g jb)]
def A2(x:Yg)(k js jb:Y9)(H:Hp)(q:Yh)(s:S2)(σ:St):Prop:=Fx σ (kT H js jb s.a s.b)<|Mc x k js jb q s
theorem A2.I(h:A2 x k js jb H q s σ)(y:Yg)(v:V)(e:(Mc x k js jb q s).lookup y=Y8:=by rfl):A2 x k js jb H q s<|σ.F y v:=Fx.F h y v e
theorem A2.u(h:A2 x k js jb H q s σ){v:Yh}:A2 x k js jb H q {s with p:=v}<|σ.F "p"<|.d v:=Fx.J h
theorem A2.F(h:A2 x k js jb H q s σ){v:Yg}:A2 x k js jb H q {s with c:=v}<|σ.F "lastch"<|.f v:=Fx.J h
theorem sf{xs:Yb V}{v:V}(h:H.o j=Y6 (.a xs))(u:xs.length<=2000):xD (.g j) v H=nj .none (km H j<|.a<|xs++[v]):=uH h<|ew u iu
theorem wQ(u:js≠jb)(h:A2 x k js jb H q s σ):ev (T pp n).c (jn "stack") σ=.c (.d<|ln s.a) σ:=zE (σ':=⟨σ.h,[],[],Y8⟩) (qQ<|Bv bT) (qD (qA<|h.g "stack" Y7) Y7)<|by rw[bT.a,Ma<|by rw[h.1];exact DC u];unfold lg;rw[n5];rfl
theorem so{a b:X}{v w:Yh}{r:S}(h:A2 x k js jb H q s σ)(u:s.b.length<=1001)(I:ev (T pp n).c a σ=.c (.d v) σ)(F:ev (T pp n).c b σ=.c (.d w) σ)(hk:A2 x k js jb H q {s with b:=s.b++[(v,w)]} {σ with h:=kT H js jb s.a<|s.b++[(v,w)]}->Gd (ex r (T pp n) {σ with h:=kT H js jb s.a<|s.b++[(v,w)]}) Q):Gd (ex (.d (.j<|.m "bracketing" "append"<|jm<|.D<|.d a<|.d b .l) r) (T pp n) σ) Q:=by
 obtain ho:σ.h.o jb=Y6 (.a<|qo s.b):=by rw[h.1];exact mi
 exact zF (qT (qA<|h.g "bracketing" Y7) (GO bT ho<|bj Y7 Y7) (qD (zt (qD I<|qD F Y7)<|by show 2<=k8;decide) Y7) (by rw[bT.a];show nz "list.append" [.g jb,.n [.d v,.d w]] _=_;rw[wO,sf ho<|by unfold qo;rw[n5];exact g8 u iu,h.1];rw[(by unfold qo;rw[eQ];rfl:qo s.b++[.n [.d v,.d w]]=qo (s.b++[(v,w)])),UL]:(T pp n).i (.m<|.builtin "list.append") ([.g jb]++[.n [.d v,.d w]]) σ.h=nj .none (kT H js jb s.a<|s.b++[(v,w)])))<|hk ⟨Y7,h.2⟩
theorem UM{r:S}(u:js≠jb)(h:A2 x k js jb H q s σ)(F:s.a.length<=1000)(hk:A2 x k js jb H q {s with a:=s.a++[s.p]} {σ with h:=kT H js jb (s.a++[s.p]) s.b}->Gd (ex r (T pp n) {σ with h:=kT H js jb (s.a++[s.p]) s.b}) Q):Gd (ex (.d (.j<|.n "push_stack"<|jm "p") r) (T pp n) σ) Q:=zF (zE (qA<|h.g "push_stack" Y7) (qD (qA<|h.g "p" Y7) Y7) (by rw[bT.f,sf (by rw[h.1];exact DC u)<|by unfold lg;rw[n5];exact g8 F iu,h.1];rw[(by unfold lg;rw[eQ];rfl:lg s.a++[.d s.p]=lg (s.a++[s.p])),Mb u]:(T pp n).i (.o js) [.d s.p] σ.h=nj .none (kT H js jb (s.a++[s.p]) s.b)))<|hk ⟨Y7,h.2⟩
def UN(x:Yg)(k js jb:Y9)(H:Hp)(q:Yh)(s:S2)(u:Yh)(w:V)(fuel:Y9)(σ:St):Prop:=∃i,A2 x k js jb H q s σ/\σ.I "i" (.d i)/\AP x s.p fuel i=Y6 u/\σ.I "newp" w
def UO(x:Yg)(k js jb:Y9)(H:Hp)(q:Yh)(s:S2)(u:Yh)(w:V)(f:Fl)(σ':St):Prop:=f=.a/\A2 x k js jb H q s σ'/\σ'.I "i" (.d u)/\σ'.I "newp" w
theorem UP{i L:Yh}(h:A2 x k js jb H q s σ)(hi:σ.I "i"<|.d i)(J:AP x s.p 1000 i=Y6 L){w:V}(I:σ.I "newp" w):Gd (ex Kt (T pp n) σ)<|UO x k js jb H q s L w:=by refine xB (UN x k js jb H q s L w) ⟨i,h,hi,J,I⟩ ?_;rintro fuel σ⟨i,h,hi,J,I⟩;cases fuel with|zero=>cases J|succ fuel=>
 refine⟨fuel,Y7,?_⟩;have u:=J;by_cases F:i≥s.p
 .replace u:=bi F u;obtain⟨c,hc,u⟩:=ji u;refine⟨_,σ,u9 " \t\n" c,vB (p:=Yk<|i≥s.p) (wA (qA hi)<|qA<|h.g "p" Y7) λy=>zw (vA (z:="") (h.g "code" Y7) (qA hi) hc) Y7,?_,λe=>?_,λe=>?_⟩;.erw[i7 F];rfl
  .obtain u:=bi e u;exact kb (kJ (qA hi) Y7)<|qC ⟨i-1,h.I "i" _,qH,u,ru I⟩
  .replace u:=bc (by erw[e];decide) u;obtain rfl:=c0 u;exact qC ⟨Y7,h,hi,I⟩
 .replace u:=bc F u;clear J;cases u;refine⟨_,σ,Yc,vB (p:=Yk<|L≥s.p) (q:=Ye) (wA (qA hi)<|qA<|h.g "p" Y7)<|λe=>g9 (k9 e) F,?_,(λe=>by cases e),λy=>qC ⟨Y7,h,hi,I⟩⟩;erw[n9 F];rfl
theorem Me{a b:Yg}:(a.cps.toList==b.cps.toList)=Yk (a=b):=by
 by_cases h:a=b;.subst h;rw[i7 Y7,iI]
 .rw[n9 h];refine Yl.mpr λe=>h ?_;cases a;cases b;exact i6 Str.mk<|Array.toList_inj.mp e
theorem DD{a b:X}{y z:Yg}{cx:Cx}(F:ev cx a σ=.c (.f y) σ)(u:ev cx b σ=.c (.f z) σ):ev cx (.j .Eq a b) σ=.c (.j<|decide<|y=z) σ:=by exact zJ5 (jW F u)<|zJ5 Me Y7
theorem UQ{a b:X}{y z:Yg}{cx:Cx}(F:ev cx a σ=.c (.f y) σ)(u:ev cx b σ=.c (.f z) σ):ev cx (.j .NotEq a b) σ=.c (.j<|!Yk (y=z)) σ:=by simp only[LI F u,bne,Me]
theorem UR{a b:X}{i l:Yh}(hc:σ.I "code"<|.f x)(F:ev (T pp n).c a σ=.c (.d i) σ)(u:ev (T pp n).c b σ=.c (.d l) σ):ev (T pp n).c (.m "code" "find"<|.d (.h "\n")<|.d a<|.d b .l) σ=.c (.d<|vP x rz (mc x.length i)<|min (mc x.length l) x.length) σ:=qT (σ':=⟨σ.h,[],[],Y8⟩) (qA hc) (zV bT<|by rfl) (qD Y7<|qD F<|qD u Y7)<|by rw[bT.a];show nz "str.find" [.f x,.f "\n",.d i,.d l] _=_;rfl
def Mg(x:Yg)(k js jb:Y9)(H:Hp)(q:Yh)(s:S2):Fl->St->Prop:=λf σ'=>(f=.c\/f=.a)/\A2 x k js jb H q s σ'
theorem US{r:S}(u:js≠jb)(h:A2 x k js jb H q s σ){hc:Prop}(hk:∀σ',A2 x k js jb H q {s with a:=s.a.dropLast} σ'->σ'.l=σ.l->Gd (ex r (T pp n) σ') Q):Gd (ex (.d (.h "stack" (.d (.t "stack") .g) .g) r) (T pp n) σ) Q:=by
 have F:σ.h.o js=Y6 (.a<|lg s.a):=by rw[h.1];exact DC u
 refine qK<|zL (qA<|h.g "stack" Y7) (by
  show(lj σ.h<|.g js).map _=_;have:lj σ.h (.g js)=Y6 (lg s.a):=by show(match σ.h.o js with|some<|.a xs=>Y6 xs|_=>Y8)=_;exact zJ5 F Y7
  rw[this];rfl) (λe=>?_) λe=>?_;.cases hs:s.a with|nil=>rw[hs]at e;cases e|cons a l=>
   rw[hs]at F;refine qF<|U6 (y:=.d a) (ys:=lg l) (h.g "stack" Y7) F<|qC<|hk _ ?_ Y7;obtain e2:({σ with o:=λj=>if j=js then Y6 (.a (V.d a::lg l).dropLast)else σ.o j}:St)={σ with h:=kT H js jb s.a.dropLast s.b}:=by rw[<-(by rw[h.1,hs];rw[(by show(lg<|a::l).dropLast=_;unfold lg;rw[mX]:(V.d a::lg l).dropLast=lg (a::l).dropLast),Mb u]:km σ.h js (.a (V.d a::lg l).dropLast)=kT H js jb s.a.dropLast s.b)];rfl
   rw[e2];exact⟨Y7,h.2⟩
 .have hs:s.a=[]:=by cases hs:s.a with|nil=>rfl|cons a l=>rw[hs]at e;cases e
  refine qC<|hk _ ?_ Y7;have:s.a.dropLast=s.a:=by rw[hs];rfl
  rw[this];exact h
theorem UT{ch:Yg}{r:S}{v:Yh}(hv:vP x rz (mc x.length s.p) (Ze (mc x.length q) x.length)+1=v)(F:v>0)(u:js≠jb)(h:A2 x k js jb H q s σ)(h2:s.b.length<=1000):Gd (ex (.d (.j<|.m "bracketing" "append"<|jm<|.D<|.d "p"<|jm<|jq (jn "stack") 1)<|.d (.a "p"<|jq (.m "code" "find"<|.d (.h "\n")<|.d "p"<|jm "q") 1)<|.d (.i<|.j .Gt "p"<|.k 0)<|.d (.j<|.m "bracketing" "append"<|jm<|.D<|.d "p"<|jm<|jn "stack")<|.d .k .g) (T pp n) σ)<|zu r (T pp n)<|Mg x k js jb H q {p:=v,a:=s.a,b:=s.b++[(s.p,ln s.a+1)]++[(v,ln s.a)],c:=s.c}:=by
 refine so h (n7 h2) (qA<|h.g "p" Y7) (qS (wQ u h) Y7) λh=>kb (qS (UR (h.g "code" Y7) (qA<|h.g "p" Y7)<|qA<|h.g "q" Y7) Y7) ?_;erw[hv];obtain h:=h.u (v:=v);refine qY ?_ ?_;.exact zJ5 (GH (qA<|h.g "p" Y7) Y7)<|zJ5 (i7<|F) Y7
 exact so h (by erw[j9];exact m9 h2) (qA<|h.g "p" Y7) (wQ u h) λh=>qF<|C6 ⟨.inl Y7,h⟩
theorem Mh{i:Yh}{c:Yg}(h:lc x i=Y6 c):c.length=1:=by
 unfold lc at h;split at h;.refine jk h λa q u=>?_;subst u;rfl
 .cases h
theorem UU{s':S2}(F:js≠jb)(h:A2 x k js jb H q s σ)(h1:s.a.length<=1000)(h2:s.b.length<=1000)(u:kK x q s=Y6 s'):Gd (ex Dh (T pp n) σ)<|Mg x k js jb H q s':=by
 refine jh u λch hs u=>kb (vA (z:="") (h.g "code" Y7) (qA<|h.g "p" Y7) hs) ?_;obtain hc:=@qH σ "ch"<|.f ch;obtain h:=h.I "ch"<|.f ch;generalize σ.F "ch" (.f ch)=σ at h hc⊢;refine qM (zw (qA hc) Y7) (λe=>?_)<|λe=>?_;.replace u:=bi e u;obtain rfl:=c0 u;refine UM F h h1 λh=>so h (n7 h2) (qA<|h.g "p" Y7) (wQ F h) λh=>kb (qA hc) ?_;obtain h':=h.F (v:=ch);exact kb (qS (qA<|h'.g "p" Y7) Y7)<|qF<|C6 ⟨.inl Y7,h'.u⟩
 replace u:=bc (by erw[e];decide) u;refine qM (zw (qA hc) Y7) (λe=>?_)<|λe=>?_;.replace u:=bi e u;obtain rfl:=c0 u;refine US (hc:=True) F h λσ' h e=>kb (qA<|by erw[e];exact hc) ?_;obtain h:=h.F (v:=ch);refine kb (qS (qA<|h.g "p" Y7) Y7) ?_;obtain h:=h.u (v:=s.p+1);exact so h (n7 h2) (qA<|h.g "p" Y7) (wQ F h) λh=>qF<|C6 ⟨.inl Y7,h⟩
 replace u:=bc (by erw[e];decide) u;refine qM (yb (p:=Yk<|ch="\"") (q:=Yk<|ch="'") (DD (qA hc) Y7) λw=>DD (qA hc) Y7) (λe=>?_)<|λe=>?_;.replace u:=bi ((fX _ _▸e:_\/_).imp k9 k9) u;refine jh u λr O u=>?_;cases r with|none=>cases u|some m=>obtain rfl:=c0 u;refine so h (n7 h2) (qA<|h.g "p" Y7) (qS (wQ F h) Y7) λh=>kb (qA hc) ?_;obtain h:=h.F (v:=ch);refine kb (DB (p:=m.1) (e:=m.2)<|GL (b:=80) (code:=kf) (by rfl) (by rfl) (h.g "code" Y7) (qA<|h.g "p" Y7) (qA<|h.g "q" Y7) O) ?_;obtain h:=h.u (v:=((m.2:Y9):Yh));exact so h (by erw[j9];exact m9 h2) (qA<|h.g "p" Y7) (wQ F h) λh=>qF<|C6 ⟨.inl Y7,h⟩
 replace u:=bc (λq=>by
  rcases q with q|q;.rw[i7 q]at e;cases e
  .rw[i7 q,Bool.or_true]at e;cases e) u;refine qM (DD (qA hc) Y7) (λe=>?_)<|λe=>?_
 .replace u:=bi (k9 e) u;by_cases hp:vP x rz (mc x.length s.p) (Ze (mc x.length q) x.length)+1>0;.replace u:=bi hp u;obtain rfl:=c0 u;exact UT (ch:=ch) Y7 hp F h h2
  .replace u:=bc hp u;cases u
 replace u:=bc (eE e) u;by_cases J:ch="\\"/\s.p+1<q
 .replace u:=bi J u;refine jh u λe N u=>?_;obtain rfl:=c0 u;refine qY ?_ ?_;.exact zJ5 (DD (qA hc) Y7)<|zJ5 (i7 J.1) Y7
  refine kb (qS (qA<|h.g "p" Y7) Y7) ?_;obtain h:=h.u (v:=s.p+1);obtain hc:=@qG σ "p" "ch" (.d<|s.p+1) _ iu hc;generalize σ.F "p" (.d<|s.p+1)=σ at h hc⊢;refine qY ?_ ?_;.exact zJ5 (uL (qA<|h.g "p" Y7)<|qA<|h.g "q" Y7)<|zJ5 (i7<|J.2) Y7
  obtain hs':=vA (pp:=pp) (n:=n) (z:="") (h.g "code" Y7) (qA<|h.g "p" Y7) N;refine qM (UQ hs' Y7) (λI=>?_)<|λI=>?_
  .have L:¬e=rz:=λq=>by rw[i7<|show e="\n"from q]at I;cases I
   erw[d8 L];refine kb (uM (qA hc) hs'<|d9<|by refine zJ5 (Mh hs)<|zJ5 (Mh N) ?_;decide) ?_;obtain h:=h.F (v:=ch++e);exact qC<|kb (qS (qA<|h.g "p" Y7) Y7)<|qC ⟨.inr Y7,h.u⟩
  .have L:e=rz:=by
    by_cases q:e=rz;.exact q
    .rw[n9<|show¬e="\n"from q]at I;cases I
   erw[d9 L];exact kb (qS (qA<|h.g "p" Y7) Y7)<|qC ⟨.inr Y7,h.u⟩
 .replace u:=bc J u;cases u
def GP(x:Yg)(k js jb:Y9)(H:Hp)(q:Yh)(r:Yj×S2):Fl->St->Prop:=λf σ'=>(if r.1 then f=.d else f=.c\/f=.a)/\A2 x k js jb H q r.2 σ'
theorem UV{r:Yj×S2}(N:js≠jb)(h:A2 x k js jb H q s σ)(u:Dy x q s=Y6 r):Gd (ex Ku (T pp n) σ)<|GP x k js jb H q r:=by
 by_cases J:s.a.length>1000\/s.b.length>1000;.replace u:=bi J u;cases u
 replace u:=bc J u;have h1:s.a.length<=1000:=YR.mp λq=>J<|.inl q;have h2:s.b.length<=1000:=YR.mp λq=>J<|.inr q;refine jh u λm hm u=>?_;have plain:∀σ s,A2 x k js jb H q s σ->s.a.length<=1000->s.b.length<=1000->(kK x q s).map (λs=>(Yc,s))=Y6 r->Gd (ex Dh (T pp n) σ) (GP x k js jb H q r):=by intro σ s h h1 h2 u;refine jk u λs' e L=>?_;subst L;exact(UU N h h1 h2 e).mono λf σ' w=>⟨w.1,w.2⟩
 refine kb (GL (b:=83) (code:=lk) (by rfl) (by rfl) (h.g "code" Y7) (qA<|h.g "p" Y7) (qA<|h.g "q" Y7) hm) ?_;have hv:=@qH σ "m"<|ul m;replace h:=h.I "m"<|ul m;generalize σ.F "m" (ul m)=σ at h hv⊢;refine qK<|zL (qA hv) GN (λe=>?_) λe=>?_;.cases m with|none=>cases e|some m=>
   refine jh u λi hi u=>am (ji u) λl I u=>kb (DB (p:=m.1) (e:=m.2)<|qA hv) ?_;obtain F:=@qH σ "newp"<|.d (m.2:Y9);obtain h:=h.I "newp"<|.d (m.2:Y9);generalize σ.F "newp" (.d (m.2:Y9))=σ at h F⊢;refine kb (kJ (qA F) Y7) ?_;obtain hiv:=@qH σ "i"<|.d<|(m.2:Y9)-1;obtain F:=@qG σ "i" "newp" (.d<|(m.2:Y9)-1) _ iu F;obtain h:=h.I "i"<|.d<|(m.2:Y9)-1;generalize σ.F "i" (.d<|(m.2:Y9)-1)=σ at h F hiv⊢;refine qK<|(UP h hiv hi F).mono ?_;rintro f σ⟨rfl,h,hiv,F⟩;have last:∀σ,A2 x k js jb H q {s with c:=l} σ->σ.I "newp" (.d (m.2:Y9))->Gd (ex (.d (.a "p" "newp")<|.d (.h (.j .GtE "p" "q") (.d .u .g) .g) .g) (T pp n) σ) (zu Dh (T pp n)<|GP x k js jb H q r):=by
    intro σ h F;refine kb (qA F) ?_;obtain h:=h.u (v:=((m.2:Y9):Yh));refine qM (wA (qA<|h.g "p" Y7)<|qA<|h.g "q" Y7) (λe=>?_) λe=>?_;.replace u:=bi (k9 e) u;obtain rfl:=c0 u;exact qF<|Mine.Lake.q9<|⟨Y7,h⟩
    .obtain u:=bc (eE e) u;exact qC<|plain _ _ h h1 h2 u
   refine qM (wA (qA hiv)<|qA<|h.g "p" Y7) (λe=>?_) λe=>?_;.replace I:=bi (k9 e) I;exact kb (vA (z:="") (h.g "code" Y7) (qA hiv) I)<|qC<|last _ h.F<|ru F
   .replace I:=bc (eE e) I;obtain rfl:=c0 I;exact last _ h F
 .cases m with|some m=>cases e|none=>exact qC<|plain _ _ h h1 h2 u
def UW(x:Yg)(k js jb:Y9)(H:Hp)(q:Yh)(s':S2)(fuel:Y9)(σ:St):Prop:=∃s,A2 x k js jb H q s σ/\uY x q fuel s=Y6 s'
theorem UX{s':S2}(L:js≠jb)(h:A2 x k js jb H q s σ)(F:uY x q 1000 s=Y6 s'):Gd (ex Kv (T pp n) σ)<|C8<|A2 x k js jb H q s':=by refine xB (UW x k js jb H q s') ⟨s,h,F⟩ ?_;rintro fuel σ⟨s,h,F⟩;cases fuel with|zero=>cases F|succ fuel=>
 refine⟨fuel,Y7,?_⟩;have u:=F;refine⟨_,σ,Yk<|s.p<q,uL (qA<|h.g "p" Y7)<|qA<|h.g "q" Y7,Y7,λe=>?_,λe=>?_⟩
 .replace u:=bi (k9 e) u;refine jh u λr N u=>(UV L h N).mono λf σ' w=>?_;by_cases I:r.1=Ye
  .replace u:=bi I u;obtain rfl:=c0 u;have J:f=.d:=by have:=w.1;rwa[d9 I]at this
   subst J;exact⟨Y7,w.2⟩
  .replace u:=bc I u;have J:f=.c\/f=.a:=by have:=w.1;rwa[d8 I]at this
   rcases J with rfl|rfl;.exact⟨_,w.2,u⟩
   .exact⟨_,w.2,u⟩
 .replace u:=bc (eE e) u;obtain rfl:=c0 u;exact qC ⟨Y7,h⟩
structure oi(H H':Hp)(d:Y9):Prop where
 n:H.n<=H'.n
 a:∀i,i<H.n->i≠d->H'.o i=H.o i
theorem oi.I:oi H H d:=⟨j7 _,λq q q=>Y7⟩
theorem oi.J{H':Hp}(h:oi H H' d){o:O}:oi H (km H' d o) d:=⟨h.n,λi hi hd=>(qE hd).trans<|h.a i hi hd⟩
theorem oi.new{H':Hp}(h:oi H H' d){o:O}(hj:H.n<=j):oi H (km H' j o) d:=⟨h.n,λi hi hd=>(qE<|v9<|i9 hi hj).trans<|h.a i hi hd⟩
theorem oi.add{H':Hp}(h:oi H H' d){o:O}:oi H (Hp.add H' o) d:=⟨n7 h.n,λi hi hd=>(d8<|v9<|i9 hi h.n).trans<|h.a i hi hd⟩
theorem oi.F{H' H'':Hp}(h:oi H H' d)(u:oi H' H'' d):oi H H'' d:=⟨g8 h.n u.n,λi hi hd=>(u.a i (i9 hi h.n) hd).trans<|h.a i hi hd⟩
structure PK(H:Hp)(k d:Y9)(fs:ly)(H':Hp):Prop where
 a:PO H' k d fs
 kept:oi H H' d
 k:k<H.n
 d:d<H.n
theorem PK.u{H':Hp}(h:PK H k d fs H'){fs':ly}:PK H k d fs'<|km H' d<|.dict fs':=⟨h.a.N,h.kept.J,h.k,h.d⟩
theorem PK.new{H':Hp}(h:PK H k d fs H')(hj:H.n<=j){o:O}:PK H k d fs<|km H' j o:=⟨h.a.S (v9<|i9 h.k hj)<|v9<|i9 h.d hj,h.kept.new hj,h.k,h.d⟩
theorem PK.add{H':Hp}(h:PK H k d fs H'){o:O}:PK H k d fs<|Hp.add H' o:=⟨⟨(d8<|v9<|i9 h.k h.kept.n).trans h.a.b,(d8<|v9<|i9 h.d h.kept.n).trans h.a.dict,h.a.c⟩,h.kept.add,h.k,h.d⟩
structure F2(fs:ly)(iw tw:Yh)(x:Yg)(c g m:Y9):Prop where
 b:Kx fs m
 iw:fs.lookup ("indentwidth":Yg)=Y6 (.d iw)tw:fs.lookup ("tabwidth":Yg)=Y6 (.d tw)code:fs.lookup ("code":Yg)=Y6 (.f x)d:fs.lookup ("continuation":Yg)=Y6 (.d (c:Y9))j:fs.lookup ("study_level":Yg)=Y6 (.d 2)a:fs.lookup ("goodlines":Yg)=Y6 (.g g)
def UY(f:Yg):Yj:=(["indentwidth","tabwidth","code","continuation","study_level","goodlines"]:Yb Yg).all λy=>! y==f
theorem F2.J(h:F2 fs iw tw x c g m){i:Y9}(hi:i<11)(u:i<=m){f:Yg}(F:sd.getD i ""=f)(I:UY f){v:V}:F2 (kn f v fs) iw tw x c g<|max m<|i+1:=by
 obtain e:∀y∈(["indentwidth","tabwidth","code","continuation","study_level","goodlines"]:Yb Yg),(y==f)=Yc:=λy hy=>by have:=Yx.mp I y hy;cases h:y==f with|false=>rfl|true=>rw[h]at this;cases this
 exact⟨h.b.J hi u F,(qB<|e _ iu).trans h.iw,(qB<|e _ iu).trans h.tw,(qB<|e _ iu).trans h.code,(qB<|e _ iu).trans h.d,(qB<|e _ iu).trans h.j,(qB<|e _ iu).trans h.a⟩
theorem GQ{o:O}(h:H.o j=Y6 o):km H j o=H:=by
 refine Eq.trans (i6 (λo=>Hp.mk o H.n)<|funext λi=>?_) (Y7:Hp.mk H.o H.n=H);by_cases e:i=j;.subst e;exact zJ5 (d9 Y7)<|zJ5 h Y7
 .exact bk e Y7
theorem UZ{st:Yb Yh}{br:Yb<|Int×Yh}(h1:H.o js=Y6 (.a<|lg st))(h2:H.o jb=Y6 (.a<|qo br)):kT H js jb st br=H:=by unfold kT;exact zJ5 (GQ h1)<|zJ5 (GQ h2) Y7
def jF(l:Yb Yh):V:=match l.getLast? with|some o=>.d o|none=>.none
theorem V0(F:js≠jb)(hs:σ.o js=Y6 (.a<|lg s.a))(h1:σ.I "stack"<|.g js)(u:s.a.length<=1000):ev (T pp n).c (.K "stack" (.q "stack"<|.B<|.k 1) .none) σ=.c (jF s.a) σ:=by
 refine zJ5 TP<|zJ5 (Rs.u<|qA h1) ?_;unfold mv;obtain ha:lj σ.h (.g js)=Y6 (lg s.a):=by show sv (σ.o js)=_;erw[hs];rfl
 erw[(by show(lj σ.h<|.g js).map _=_;rw[ha];rfl:nc σ.h (.g js)=Y6 !(lg s.a).isEmpty)];rcases iK s.a with e|⟨l,a,e⟩;.erw[e];rfl
 .rw[e]at ha u⊢;obtain hl':l.length<=999:=by rw[iL,j9]at u;exact u7 u
  obtain e1:lg (l.concat a)=lg l++[.d a]:=by erw[iL];unfold lg;erw[eQ];rfl
  erw[(by rw[e1];cases lg l<;>rfl:(!(lg<|l.concat a).isEmpty)=Ye)];erw[(by unfold jF;rw[iL,gN]:jF (l.concat a)=.d a)];refine xE (qA h1) uK<|xV (xs:=lg l++[.d a]) (j:=l.length) Y7 (by refine pd e1 ?_;exact ha) iu ?_ ?_;.erw[(by unfold lg;rw[j9,n5];rfl:(lg l++[V.d a]).length=l.length+1)];unfold YL;erw[(by refine bj iu ?_;simp+arith:(if(-1:Yh)<0 then(-1:Yh)+(l.length+1:Y9)else-1)=((l.length:Y9):Yh))];exact(d9<|by rw[j0];exact⟨i7<|cD _,i7<|by simp+arith⟩).trans<|i6 Y6<|eH _
  .erw[cA<|by unfold lg;rw[n5];exact j7 _];unfold lg;rw[n5,gV];rfl
structure GR(fs:ly)(iw tw:Yh)(x:Yg)(c g:Y9)(r:R2):Prop where
 d:F2 fs iw tw x c g 11
 a:fs.lookup ("stmt_start":Yg)=Y6 (.d r.a)b:fs.lookup ("stmt_end":Yg)=Y6 (.d r.b)e:fs.lookup ("lastch":Yg)=Y6 (.f r.s.c)h:fs.lookup ("lastopenbracketpos":Yg)=Y6 (jF r.s.a)f:fs.lookup ("stmt_bracketing":Yg)=Y6 (.n<|qo r.s.b)
def Cg(H:Hp)(k d:Y9)(iw tw:Yh)(x:Yg)(c g:Y9)(r:R2):Fl->St->Prop:=λf σ'=>f=.a/\∃fs',PK H k d fs' σ'.h/\GR fs' iw tw x c g r
theorem V1{H':Hp}{a b:Yh}(J:fs.lookup ("stmt_start":Yg)=Y6 (.d a))(hz:fs.lookup ("stmt_end":Yg)=Y6 (.d b))(U:js≠jb)(O:H.n<=js)(S:H.n<=jb)(h:A2 x k js jb H' q s σ)(u:PK H k d fs H')(I:F2 fs iw tw x c g 8)(h1:s.a.length<=1000)(h2:s.b.length<=1000):Gd (ex Kw (T pp n) σ)<|Cg H k d iw tw x c g ⟨a,b,s⟩:=by
 have u:PK H k d fs σ.h:=by rw[h.1];exact(u.new O).new S
 have Y:js≠d:=λe=>g9 (i9 u.d O) (by rw[e];exact fD _);have N:jb≠d:=λe=>g9 (i9 u.d S) (by rw[e];exact fD _);obtain hs:σ.h.o js=Y6 (.a<|lg s.a):=by rw[h.1];exact DC U
 obtain⟨e1,e2,X,L⟩:σ.I "self" (.g k)/\σ.I "lastch" (.f s.c)/\σ.I "stack" (.g js)/\σ.I "bracketing" (.g jb):=⟨h.g "self" Y7,h.g "lastch" Y7,h.g "stack" Y7,h.g "bracketing" Y7⟩;refine qF<|xW (qA e2) (qA e1) (u.a.J bT iu I.b.I) ?_;obtain I:=I.J (i:=8) (f:="lastch") (v:=.f s.c) iu iu jg jg;obtain hL:=@qZ "lastch" (.f s.c) fs;obtain J:=(qB (x:="stmt_start") (y:="lastch") (v:=.f s.c) (fs:=fs) iu).trans J;obtain hz:=(qB (x:="stmt_end") (y:="lastch") (v:=.f s.c) (fs:=fs) iu).trans hz;obtain u:=u.u (fs':=kn "lastch" (.f s.c) fs);obtain hs:=(qE (o:=.dict<|kn "lastch" (.f s.c) fs) Y).trans hs;obtain hb:=(qE (o:=.dict<|kn "lastch" (.f s.c) fs) N).trans (by rw[h.1];exact mi:σ.h.o jb=Y6 (.a<|qo s.b));generalize kn "lastch" (.f s.c) fs=fs2 at I u hs hb hL J hz⊢;generalize F:({σ with h:=km σ.h d<|.dict fs2}:St)=σ2;obtain e1:σ2.I "self"<|.g k:=by rw[<-F];exact e1
 obtain X:σ2.I "stack"<|.g js:=by rw[<-F];exact X
 obtain L:σ2.I "bracketing"<|.g jb:=by rw[<-F];exact L
 obtain hs:σ2.h.o js=Y6 (.a<|lg s.a):=by rw[<-F];exact hs
 obtain hb:σ2.h.o jb=Y6 (.a<|qo s.b):=by rw[<-F];exact hb
 obtain u:PK H k d fs2 σ2.h:=by rw[<-F];exact u
 refine qF<|xW (V0 U hs X h1) (qA e1) (u.a.J bT iu I.b.I) ?_;obtain I:=I.J (i:=9) (f:="lastopenbracketpos") (v:=jF s.a) iu iu jg jg;obtain hL:=(qB (x:="lastch") (y:="lastopenbracketpos") (v:=jF s.a) (fs:=fs2) iu).trans hL;obtain hO:=@qZ "lastopenbracketpos" (jF s.a) fs2;obtain J:=(qB (x:="stmt_start") (y:="lastopenbracketpos") (v:=jF s.a) (fs:=fs2) iu).trans J;obtain hz:=(qB (x:="stmt_end") (y:="lastopenbracketpos") (v:=jF s.a) (fs:=fs2) iu).trans hz;obtain u:=u.u (fs':=kn "lastopenbracketpos" (jF s.a) fs2);obtain hb:=(qE (o:=.dict<|kn "lastopenbracketpos" (jF s.a) fs2) N).trans hb;generalize kn "lastopenbracketpos" (jF s.a) fs2=fs3 at I u hb hL hO J hz⊢;generalize F:({σ2 with h:=km σ2.h d<|.dict fs3}:St)=σ3;obtain e1:σ3.I "self"<|.g k:=by rw[<-F];exact e1
 obtain L:σ3.I "bracketing"<|.g jb:=by rw[<-F];exact L
 obtain hb:σ3.h.o jb=Y6 (.a<|qo s.b):=by rw[<-F];exact hb
 obtain u:PK H k d fs3 σ3.h:=by rw[<-F];exact u
 refine qF<|xW (by refine zE (σ':=⟨σ3.h,[],[],Y8⟩) (qQ (v:=.m<|.type "tuple")<|by rw[bT.b];rfl) (qD (qA L) Y7) ?_;rw[DA,(by refine bk iu<|bj Y7 ?_;rfl:wq "tuple" [Mine.Lake.V.g jb] _=yq (Mine.Lake.V.g jb) _)];show(sv<|σ3.o jb).elim Rs.b _=_;rw[hb];rfl:ev (T pp n).c (.n (.g "tuple")<|jm "bracketing") σ3=.c (.n<|qo s.b) σ3) (qA e1) (u.a.J bT iu I.b.I)<|qC ⟨Y7,_,u.u,?_,(qB iu).trans J,(qB iu).trans hz,(qB iu).trans hL,(qB iu).trans hO,qZ⟩;exact I.J (i:=10) (f:="stmt_bracketing") iu iu jg jg
theorem V2{o:Yd S2}{s':S2}(h:zNn o=Y6 s'):o=Y6 s'/\s'.a.length<=1000/\s'.b.length<=1000:=by
 refine jh h λs u h2=>?_;subst u;by_cases e:s.a.length<=1000/\s.b.length<=1000;.replace h2:=bi e h2;obtain rfl:=c0 h2;exact⟨Y7,e⟩
 .replace h2:=bc e h2;cases h2
theorem Mi{r:R2}{H':Hp}(F:PK H k d fs H')(I:F2 fs iw tw x c g 6)(u:Fx σ H' [("self",.g k),("code",.f x),("p",.d p),("q",.d q)])(J:qq x p q=Y6 r):Gd (ex Gq (T pp n) σ)<|Cg H k d iw tw x c g r:=by obtain⟨s',L,rfl⟩:=jl J;obtain⟨J,l1,l2⟩:=V2 L;obtain e1:=u.g "self" Y7;obtain rfl:=u.1;refine qF<|U5 (a7:=σ) (a8:=σ) (zt (qD (qA<|u.g "p" Y7)<|qD (qA<|u.g "q" Y7) Y7)<|by show 2<=k8;decide) (qA e1) (F.a.J bT iu I.b.I) (qA e1) (F.u.a.J bT iu (I.J (i:=6) (f:="stmt_start") (v:=.d p) iu iu jg jg).b.I) ?_;obtain I:=(I.J (i:=6) (f:="stmt_start") (v:=.d p) iu iu jg jg).J (i:=7) (f:="stmt_end") (v:=.d q) iu iu jg jg;obtain F:=F.u (fs':=kn "stmt_start" (.d p) fs).u (fs':=kn "stmt_end" (.d q)<|kn "stmt_start" (.d p) fs);obtain ha:(kn "stmt_end" (.d q)<|kn "stmt_start" (.d p) fs).lookup ("stmt_start":Yg)=Y6 (.d p):=(qB iu).trans qZ;obtain hz:=@qZ "stmt_end" (.d q)<|kn "stmt_start" (.d p) fs;generalize kn "stmt_end" (.d q) (kn "stmt_start" (.d p) fs)=fs2 at I F ha hz⊢;obtain u:Fx ({σ with h:=km (km σ.h d<|.dict<|kn "stmt_start" (.d p) fs) d<|.dict fs2}:St) _ _:=⟨Y7,u.2⟩;generalize km (km σ.h d<|.dict<|kn "stmt_start" (.d p) fs) d (.dict fs2)=H1 at u F⊢;refine zA u (v:=.f "") Y7 λσ u=>qF<|C4 (a7:=σ) (xs:=[]) (xP Y7 iu) ?_;obtain rfl:=u.1;obtain u:=Fx.I (⟨Y7,u.2⟩:Fx (σ.add<|.a []) (σ.add<|.a []).h _) "stack"<|.g σ.n;obtain hs:(σ.add<|.a []).o σ.n=Y6 (.a []):=d9 Y7;obtain hlt:σ.n<(σ.add<|.a []).n:=u8 _;obtain hle:H.n<=σ.n:=F.kept.n;obtain F:PK H k d fs2 (σ.add<|.a []).h:=F.add;generalize(σ.add<|.a []).F "stack" (.g σ.n)=σ' at u⊢;generalize(σ.add<|.a []).h=H2 at u F hs hlt;generalize σ.n=js at u hs hlt hle;refine zA u (qR (qA<|u.g "stack" Y7)<|LX bT<|by rw[u.1];exact hs) λσ u=>qF<|C4 (a7:=σ) (xP (qD (zt (qD (qA<|u.g "p" Y7)<|qD Y7 Y7)<|by show 2<=k8;decide) Y7)<|by show 1<=k8;decide) ?_;obtain rfl:=u.1;obtain u:=Fx.I (⟨Y7,u.2⟩:Fx (σ.add<|.a [.n [.d p,.d 0]]) (σ.add<|.a [.n [.d p,.d 0]]).h _) "bracketing"<|.g σ.n;obtain hb:(σ.add<|.a [.n [.d p,.d 0]]).o σ.n=Y6 (.a [.n [.d p,.d 0]]):=d9 Y7;obtain hs:(σ.add<|.a [.n [.d p,.d 0]]).o js=Y6 (.a []):=(d8<|v9 hlt).trans hs;refine qK<|(UX (v9 hlt) ⟨u.1.trans (UZ hs hb).symm,(u.L<|by rfl).2⟩ J).mono ?_;rintro f σ'⟨rfl,h'⟩;exact V1 ha hz (v9 hlt) hle F.kept.n h' F.add I l1 l2
theorem V3{r:Y9×Yh×Yh}{L:R2}{H':Hp}(J:PK H k d fs H')(I:F2 fs iw tw x c g 6)(h:A1 x k j H' r.1 r.2.1 σ)(N:r.1≠0->σ.I "q" (.d r.2.2))(u:(if r.1=0 then(if r.2.1=0 then qq x r.2.1 r.2.1 else Y8)else qq x r.2.1 r.2.2)=Y6 L):Gd (ex Ky (T pp n) σ)<|Cg H k d iw tw x c g L:=by
 show Gd (ex (.d (.h (.j .Eq "i"<|.k 0) (.d (.i<|.j .Eq "p"<|.k 0)<|.d (.a "q" "p") .g) .g) Gq) (T pp n) σ) _;refine qM (xQ (qA<|h.g "i" Y7) Y7) (λe=>?_)<|λe=>?_
 .obtain u:=bi (dn (b:=0) e) u;by_cases hp:r.2.1=0
  .replace u:=bi hp u;refine qY ?_<|kb (qA<|h.g "p" Y7)<|qC ?_;.refine zJ5 (xQ (qA<|h.g "p" Y7) Y7)<|zJ5 hp ?_;rfl
   exact Mi (fs:=fs) J I ((h.I "q" _).L<|by rw[hp];rfl) u
  .replace u:=bc hp u;cases u
 .have F:¬r.1=0:=λq=>by replace e:=q▸e;cases e
  replace u:=bc F u;exact Mi J I ((h.N<|N F).L<|by rfl) u
theorem V4{gl:Ln}{s':R2}{J:ly}{u:St}(e1:u.I "self"<|.g k)(L:PK H k d J u.h)(I:M3 J iw tw x 1 j c)(hj:u.h.o j=Y6 (.a<|kj gl))(U:j≠d)(N:kG x gl=Y6 s'):Gd (ex (.d (.l "self" "study_level"<|.k 2) Kz) (T pp<|n+1) u)<|Cg H k d iw tw x c j s':=by
 obtain hG:=I.y;refine qF<|xW (v:=.d 2) (a7:=u) Y7 (qA e1) (L.a.J bT iu I.t.I) ?_;obtain hne:∀y∈(["indentwidth","tabwidth","code","continuation","goodlines"]:Yb Yg),(y=="study_level")=Yc:=jg;have S:F2 (kn "study_level" (.d 2) J) iw tw x c j 6:=⟨(I.z.J (i:=3) iu iu jg).L iu,(qB<|hne _ iu).trans I.iw,(qB<|hne _ iu).trans I.tw,(qB<|hne _ iu).trans I.code,(qB<|hne _ iu).trans I.w,qZ,(qB<|hne _ iu).trans hG⟩;obtain hG2:=(qB<|hne _ iu).trans hG;obtain L:=L.u (fs':=kn "study_level" (.d 2) J);obtain hj:=(qE (o:=.dict<|kn "study_level" (.d 2) J) U).trans hj;generalize kn "study_level" (.d 2) J=fs2 at S hG2 L hj⊢;obtain F:=Fx.O (σ:={u with h:=km u.h d<|.dict fs2}) Y7 e1;generalize km u.h d (.dict fs2)=H1 at F L hj⊢;by_cases O:gl.length=0\/gl.length>1000;.obtain N:=bi O N;exact lz N
 replace N:=bc O N;obtain g0:0<gl.length:=w5 λq=>O<|.inl q;refine jh N λr V N=>qF<|C5 (zt (xs:=[.f x,.g j]) (qD (qR (qA<|F.g "self" Y7)<|L.a.I bT iu S.code Y7)<|qD (qR (qA<|F.g "self" Y7)<|L.a.I bT iu hG2 Y7) Y7)<|by show 2<=k8;decide) ?_;obtain F:=(F.I "code"<|.f x).I "goodlines"<|.g j;generalize(({u with h:=H1}:St).F "code"<|.f x).F "goodlines" (.g j)=σ3 at F⊢;refine zA F (kJ (zE (σ':=⟨σ3.h,[],[],Y8⟩) (qQ<|Bv bT) (qD (qA<|F.g "goodlines" Y7) Y7)<|by rw[bT.a,Ma<|by rw[F.1];exact hj];unfold kj;rw[n5];rfl) Y7) ?_;refine zJ5 (ck<|w5 λq=>O<|.inl q:((gl.length:Y9):Yh)-1=((gl.length-1:Y9):Yh)) λσ F=>?_;refine zA F (Ca bT<|F.g "code" Y7) λσ F=>qK<|(UK hj (YR.mp λq=>O<|.inr q) (iO g0<|eG 0) (F.L<|by rfl) V).mono ?_;rintro f σ'⟨rfl,h',hq⟩;exact V3 L S h' hq N
structure zx(H:Hp)(k d:Y9)(iw tw:Yh)(x:Yg)(gl:Ln)(c:Y9)(fs:ly):Prop where
 a:PO H k d fs
 st:∃j,M3 fs iw tw x 1 j c/\H.o j=Y6 (.a<|kj gl)/\j≠d/\j<H.n
 k:k<H.n
 d:d<H.n
theorem uQ{gl:Ln}(h:sy H k d fs iw tw x gl c):zx (mz H d (.dict<|xy fs H.n c)<|.a<|kj gl) k d iw tw x gl c<|xy fs H.n c:=⟨⟨(d8<|v9 h.k).trans<|(d8 h.e.c).trans h.e.b,(d8<|v9 h.d).trans<|d9 Y7,h.e.c⟩,⟨H.n,by obtain h1:=h.fs.S (l':=1);obtain k2:=(h1.t.J (i:=4) (f:="goodlines") (v:=.g H.n) iu iu jg).J (i:=5) (f:="continuation") (v:=.d (c:Y9)) iu iu jg;exact⟨⟨k2.L iu,(qB iu).trans<|(qB iu).trans h1.iw,(qB iu).trans<|(qB iu).trans h1.tw,(qB iu).trans<|(qB iu).trans h1.code,(qB iu).trans<|(qB iu).trans h1.v⟩,k2,(qB iu).trans qZ,qZ⟩,d9 Y7,eZ h.d,u8 _⟩,dI h.k,dI h.d⟩
theorem V5{gl:Ln}(h:zx H k d iw tw x gl c fs):∃σ',(T pp<|n+1).i (.m<|.ref 200) [.g k] H=.c .none σ'/\σ'.h=H:=by refine am h.st λj u z=>?_;obtain⟨f,σ',e,rfl,w⟩:=(by obtain h1:(oh ((["self"]:Yb Yg).zip [.g k]) H).I "self"<|.g k:=Y7;obtain h2:(oh ((["self"]:Yb Yg).zip [.g k]) H).h=H:=Y7;generalize oh ((["self"]:Yb Yg).zip [.g k]) H=σ at h1 h2⊢;subst h2;exact qM (wA (qR (qA h1)<|h.a.I bT (v:=.d 1) iu u.v Y7) Y7) (λz=>qF<|GF ⟨Y7,Y7⟩) λq=>g9 q iu:Gd (ex uP (T pp n)<|oh ((["self"]:Yb Yg).zip [.g k]) H) λf σ'=>f=.b .none/\σ'.h=H);refine⟨σ',?_,w⟩;rw[jM iu];exact wW (by rfl) Y7 e Y7
theorem V6{gl:Ln}(h:sy H k d fs iw tw x gl c):∃σ',(T pp<|n+2).i (.m<|.ref 207) [.g k] H=.c (.d (c:Y9)) σ'/\oi H σ'.h d/\∃fs',zx σ'.h k d iw tw x gl c fs':=by refine bC λF=>?_;obtain⟨f,σ',e,rfl,w⟩:=(by obtain h1:(oh ((["self"]:Yb Yg).zip [.g k]) H).I "self"<|.g k:=Y7;obtain h2:(oh ((["self"]:Yb Yg).zip [.g k]) H).h=H:=Y7;generalize oh ((["self"]:Yb Yg).zip [.g k]) H=σ at h1 h2⊢;subst h2;refine am (UE (pp:=pp) (n:=n) h) λa8 I J=>?_;refine zF (qT (qA h1) (h.e.L bT (h.fs.t.m iu)<|by rfl) (xs:=[]) Y7 I) ?_;erw[J];obtain hS:=uQ h;refine am hS.st λj u q=>?_;exact qF<|zY (qR (qA h1)<|hS.a.I bT iu u.w Y7) ⟨Y7,Y7⟩:Gd (ex Gp (T pp<|n+1)<|oh ((["self"]:Yb Yg).zip [.g k]) H) λf σ'=>f=.b (.d (c:Y9))/\σ'.h=mz H d (.dict<|xy fs H.n c) (.a<|kj gl));refine F ?_;refine⟨σ',?_,by erw[w];exact⟨fM _,λi hi hd=>(d8<|v9 hi).trans<|d8 hd⟩,xy fs H.n c,by erw[w];exact uQ h⟩;rw[jM iu];exact wW (by rfl) Y7 e Y7
theorem V7{gl:Ln}(h:zx H k d iw tw x gl c fs){s':R2}(N:kG x gl=Y6 s'):∃σ',(T pp<|n+2).i (.m<|.ref 214) [.g k] H=.c .none σ'/\∃fs' j,PK H k d fs' σ'.h/\GR fs' iw tw x c j s'/\σ'.h.o j=Y6 (.a<|kj gl)/\j≠d/\j<H.n:=by refine cc h.st λj I hj u F=>?_;obtain⟨f,σ',e,rfl,w⟩:=(by have h1:(oh ((["self"]:Yb Yg).zip [.g k]) H).I "self"<|.g k:=Y7;have h2:(oh ((["self"]:Yb Yg).zip [.g k]) H).h=H:=Y7;generalize oh ((["self"]:Yb Yg).zip [.g k]) H=σ at h1 h2⊢;subst h2;refine am (V5 (pp:=pp) (n:=n) h) λa8 S J=>?_;refine qM (wA (qR (qA h1)<|h.a.I bT (v:=.d 1) iu I.v Y7) Y7) (λq=>g9 q iu) λz=>zF (qT (qA h1) (h.a.L bT (I.t.m iu)<|by rfl) (xs:=[]) Y7 S) ?_;exact V4 h1 (by erw[J];exact⟨h.a,oi.I,h.k,h.d⟩) I (by erw[J];exact hj) u N:Gd (ex Gu (T pp<|n+1)<|oh ((["self"]:Yb Yg).zip [.g k]) H)<|Cg H k d iw tw x c j s');refine am w λfs' L O=>?_;refine⟨σ',?_,fs',j,L,O,(L.kept.a j F u).trans hj,u,F⟩;rw[jM iu];exact wW (by rfl) Y7 e Y7
end
section
variable{pp:dE}{n k d j js jb:Y9}{H:Hp}{σ:St}{Q:Fl->St->Prop}{x:Yg}{o:Yh}{s:S2}{fs:ly}{iw tw:Yh}{c g m:Y9}{r2:R2}{a b:Yh}{gl:Ln}
theorem Mj{a:X}{i:Yh}(hc:σ.I "code"<|.f x)(u:ev (T pp n).c a σ=.c (.d i) σ):ev (T pp n).c (.m "code" "find"<|.d (.h "\n")<|.d a .l) σ=.c (.d<|gE x rz i) σ:=qT (σ':=⟨σ.h,[],[],Y8⟩) (qA hc) (zV bT<|by rfl) (qD Y7<|qD u Y7)<|by rw[bT.a];show nz "str.find" [.f x,.f "\n",.d i] _=_;rfl
def V8(x:Yg)(k:Y9)(o:Yh):Yb<|Str×V:=[("self",.g k),("code",.f x),("n",.d (x.length:Y9)),("origi",.d o)]
def A3(x:Yg)(k:Y9)(H:Hp)(o:Yh)(σ:St):Prop:=Fx σ H<|V8 x k o
def V9(i:Yh)(j:Yh):Yb<|Str×V:=[("i",.d i),("j",.d j)]
def IJ(i j:Yh)(σ:St):Prop:=Fx σ σ.h<|V9 i j
theorem Va{i j I:Yh}(h:A3 x k H o σ)(F:IJ i j σ)(u:kR x 1000 j=Y6 I):Gd (ex (.loop 1000 (.j .In (.q "code" "j")<|.h " \t") Gv .g) (T pp n) σ) λf σ'=>f=.a/\A3 x k H o σ'/\IJ i I σ':=by refine xB (λfuel σ=>∃j,A3 x k H o σ/\IJ i j σ/\kR x fuel j=Y6 I) ⟨j,h,F,u⟩ ?_;rintro fuel σ⟨j,h,F,u⟩;cases fuel with|zero=>cases u|succ fuel=>
 refine⟨fuel,Y7,am (ji<|u) λc hc u=>⟨_,σ,u9 " \t" c,zw (vA (z:="") (h.g "code" Y7) (qA<|F.g "j" Y7) hc) Y7,Y7,λe=>?_,λe=>?_⟩⟩;.replace u:=bi e u;exact kb (qS (qA<|F.g "j" Y7) Y7)<|qC ⟨j+1,h.F "j" _ Y7,F.J,u⟩
 .replace u:=bc (by erw[e];decide) u;obtain rfl:=c0 u;exact qC ⟨Y7,h,F⟩
def Vb(x:Yg)(k:Y9)(H:Hp)(o:Yh)(r:Yd<|Int×Yh)(fuel:Y9)(σ:St):Prop:=∃i j,A3 x k H o σ/\IJ i j σ/\Bw x fuel i j=Y6 r
def Vc(x:Yg)(k:Y9)(H:Hp)(o:Yh)(pre:Yg)(u:Yj)(iw:Yh)(f:Fl)(σ':St):Prop:=f=.a/\A3 x k H o σ'/\(∃i j,IJ i j σ'/\zP x i j=pre)/\σ'.I "extra" (.d<|if u then iw else 0)
theorem Vd{i j:Yh}{r:Yd<|Int×Yh}{pre:Yg}{F:Yj}(J:PO H k d fs)(O:fs.lookup ("indentwidth":Yg)=Y6 (.d iw))(h:A3 x k H o σ)(u:IJ i j σ)(hi:Bw x 1000 i j=Y6 r)(I:(match r with|some m=>Y6 (zP x m.1 m.2,Yc)|none=>(kR x 1000 o).map λj=>(zP x o j,Ye))=Y6 (pre,F)):Gd (ex KB (T pp n) σ)<|Vc x k H o pre F iw:=by refine xB (Vb x k H o r) ⟨i,j,h,u,hi⟩ ?_;rintro fuel σ⟨i,j,h,u,hi⟩;cases fuel with|zero=>cases hi|succ fuel=>
 refine⟨fuel,Y7,?_⟩;refine⟨_,σ,Yk<|j<(x.length:Y9),uL (qA<|u.g "j" Y7)<|qA<|h.g "n" Y7,Y7,λe=>?_,λe=>?_⟩
 .replace hi:=bi (k9 e) hi;refine jh hi λm hm hi=>kb (M8 (b:=81) (code:=pk) (by rfl) (by rfl) (h.g "code" Y7) (qA<|u.g "j" Y7) hm) ?_;obtain hv:=@qH σ "m"<|ul m;obtain h:A3 x k H o _:=h.F "m" (ul m) Y7;obtain u:IJ i j _:=u.F "m" (ul m) Y7;generalize σ.F "m" (ul m)=σ at h hv u⊢;refine qK<|zL (qA hv) GN (λe=>?_) λe=>?_;.cases m with|none=>cases e|some m=>obtain e':=c0 hi;clear hi J O;subst e';have N:Y6 (zP x i<|(m.2:Y9)-1,Yc)=Y6 (pre,F):=I;cases N;exact kb (kJ (DB (p:=m.1) (e:=m.2)<|qA hv) Y7)<|kb (v:=.d 0) Y7<|qF<|Mine.Lake.q9<|⟨Y7,(h.F "j" _ Y7).F "extra" _ Y7,⟨i,_,u.J (y:="j").F "extra" _ Y7,Y7⟩,qH⟩
  .clear hv;cases m with|some m=>cases e|none=>exact qF<|C7 (qS (Mj (h.g "code" Y7)<|qA<|u.g "j" Y7) Y7)<|qC<|qC<|⟨_,_,(h.F "i" _ Y7).F "j" _ Y7,u.J.J,hi⟩
 .replace hi:=bc (eE e) hi;obtain rfl:=c0 hi;refine jk I λS L I=>?_;injection I with I h_;subst I h_;refine qF<|C7 (qA<|h.g "origi" Y7) ?_;obtain u:IJ o o<|(σ.F "j"<|.d o).F "i"<|.d o:=u.J.J;obtain h:A3 x k H o _:=(h.F "j" (.d o) Y7).F "i" (.d o) Y7;generalize(σ.F "j"<|.d o).F "i" (.d o)=σ at h u⊢;refine qK<|(Va h u L).mono ?_;rintro f σ⟨rfl,h,u⟩;exact kb (qR (qA<|h.g "self" Y7)<|by erw[h.1];exact J.I bT iu O Y7)<|qC<|⟨Y7,h.F "extra" _ Y7,⟨o,S,u.F "extra" _ Y7,Y7⟩,qH⟩
structure pg(H:Hp)(k d:Y9)(iw tw:Yh)(x:Yg)(gl:Ln)(c:Y9)(r:R2)(fs:ly):Prop where
 a:PO H k d fs
 st:∃j,GR fs iw tw x c j r/\H.o j=Y6 (.a<|kj gl)/\j≠d/\j<H.n
 k:k<H.n
 d:d<H.n
theorem Ve{gl:Ln}{r:R2}(h:pg H k d iw tw x gl c r fs):∃σ',(T pp<|n+1).i (.m<|.ref 214) [.g k] H=.c .none σ'/\σ'.h=H:=by refine am h.st λj u z=>jV (·=H) iu (by rfl) Y7 λσ h1 h2=>?_;subst h2;exact qM (wA (qR (qA<|by erw[h1];rfl)<|h.a.I bT (v:=.d 2) iu u.d.j Y7) Y7) (λz=>qF<|GF ⟨Y7,Y7⟩) λq=>g9 q iu
theorem DE{gl:Ln}{r:R2}{f:YF}{sc:Yt}{b:S}{v:V}(h:pg H k d iw tw x gl c r fs)(N:f≠266/\f≠78/\(zr f).isNone)(u:mq.lookup f=Y6 (sc,(["self"]:Yb Yg),S.d (.j<|.m "self" "_study2" .l) b))(J:∀σ:St,σ.I "self" (.g k)->σ.h=H->Gd (ex b (T pp<|n+1) σ) λf σ'=>sk f σ'=.c v σ'/\σ'.h=H)(hc:uV sc (["self"]:Yb Yg):=by kernel_rfl):∃σ',(T pp<|n+2).i (.m<|.ref f) [.g k] H=.c v σ'/\σ'.h=H:=by
 refine am h.st λj I q=>jV (·=H) N u Y7 (λσ h1 h2=>?_) hc;obtain e1:σ.l.lookup ("self":Yg)=Y6 (.g k):=by erw[h1];rfl
 refine am (Ve (pp:=pp) (n:=n) h) λa8 F L=>?_;rw[<-h2]at F;exact zF (qT (qA e1) (by erw[h2];exact h.a.L bT (I.d.b.m iu)<|by rfl) (xs:=[]) Y7 F)<|J {σ with h:=a8.h} e1 L
theorem Vf{gl:Ln}{pre:Yg}{I:Yj}(h:pg H k d iw tw x gl 4 r2 fs)(e1:σ.I "self"<|.g k)(e0:σ.h=H)(hL:r2.s.a.getLast?=Y6 o)(N:vO x o=Y6 (pre,I))(U:pa pre tw):Gd (ex Gw (T pp n) σ) λf σ'=>sk f σ'=.c (.d<|(mh tw.toNat pre).length+if I then iw else 0) σ'/\σ'.h=H:=by
 refine jh N λr S N=>?_;refine bC λL=>?_;obtain⟨V,⟨J,_,_,_,O,_⟩,_⟩:=h.st;have F:=h.a;obtain u:=Fx.O e0 e1;refine L ?_;refine qY ?_ ?_;.rw[xQ (qR (qA e1)<|by rw[e0];exact F.I bT iu J.d Y7)<|qQ<|GK bT];rfl
 refine zA u (qR (qA e1)<|by rw[e0];exact F.I bT iu (by rw[O];unfold jF;rw[hL]:fs.lookup ("lastopenbracketpos":Yg)=Y6 (.d o)) Y7) λσ u=>?_;refine zA u (qR (qA<|u.g "self" Y7)<|by rw[u.1];exact F.I bT iu J.code Y7) λσ u=>zA u (Ca bT<|u.g "code" Y7) λσ u=>qF<|C7 (qS (M7 (u.g "code" Y7)<|qA<|u.g "j" Y7) Y7) ?_;obtain u:=(u.I "origi"<|.d<|na x o+1).I "i"<|.d<|na x o+1;generalize(σ.F "origi"<|.d<|na x o+1).F "i" (.d<|na x o+1)=σ at u⊢;refine zA u (qS (qA<|u.g "j" Y7) Y7) λσ u=>?_;refine bC λL=>?_;obtain h3:A3 x k H (na x o+1) σ:=u.L (by rfl);obtain hij:IJ (na x o+1) (o+1) σ:=⟨Y7,(u.L<|by rfl).2⟩;refine L ?_;refine qK<|(Vd F J.iw h3 hij S<|by cases r<;>exact N).mono ?_;rintro f σ⟨rfl,h3,⟨i,j,hij,hpre⟩,he⟩;refine qF<|zY (qS (zE (σ':=⟨σ.h,[],[],Y8⟩) (qQ<|Bv bT) (qD (qT (σ':=⟨σ.h,[],[],Y8⟩) (vK (qA<|h3.g "code" Y7) (qA<|hij.g "i" Y7) (qA<|hij.g "j" Y7)<|by rw[<-hpre];rfl:ev (T pp n).c (.z "code" "i" "j") σ=.c (.f pre) σ) (zV bT<|by rfl) (qD (qR (qA<|h3.g "self" Y7)<|by rw[h3.1];exact F.I bT iu J.tw Y7) Y7)<|by rw[bT.a];show nz "str.expandtabs" [.f pre,.d tw] _=_;exact d9 U) Y7)<|by rw[bT.a,Du];rfl)<|qA he) ⟨Y7,h3.1⟩
theorem Vg{gl:Ln}{pre:Yg}{u:Yj}(h:pg H k d iw tw x gl 4 r2 fs)(hL:r2.s.a.getLast?=Y6 o)(F:vO x o=Y6 (pre,u))(I:pa pre tw):∃σ',(T pp<|n+2).i (.m<|.ref 221) [.g k] H=.c (.d<|(mh tw.toNat pre).length+if u then iw else 0) σ'/\σ'.h=H:=DE h iu (b:=Gw) (by rfl) λσ e1 e0=>Vf h e1 e0 hL F I
theorem Vh{e:X}{r:Yd<|Nat×Y9}(u:ev (T pp n).c e σ=.c (ul r) σ):ev (T pp n).c (.j .IsNot e .none) σ=.c (.j r.isSome) σ:=zR u Y7<|by cases r<;>rfl
theorem Ml{e f:X}{y z:Yg}(F:ev (T pp n).c e σ=.c (.f y) σ)(u:ev (T pp n).c f σ=.c (.f z) σ):ev (T pp n).c (.j .NotIn e f) σ=.c (.j<|!ZL z y) σ:=zR F u Y7
theorem Vi(h:zx H k d iw tw x gl c fs)(O:kG x gl=Y6 r2){m:Yd<|Nat×Y9}(hm:pq pn x [r2.a]=Y6 m):∃σ',(T pp<|n+3).i (.m<|.ref 256) [.g k] H=.c (.j m.isSome) σ'/\oi H σ'.h d/\∃fs',pg σ'.h k d iw tw x gl c r2 fs':=by
 refine jV (λH'=>oi H H' d/\∃fs',pg H' k d iw tw x gl c r2 fs') iu (by rfl) Y7 λσ h1 h2=>?_;have e1:σ.I "self"<|.g k:=by unfold St.I;rw[h1];rfl
 refine bC λJ=>?_;obtain⟨a8,L,U,fs',F⟩:=(by refine bC λJ=>?_;obtain⟨σ',e,fs',j,u,V,X,Z,S⟩:=V7 (pp:=pp) (n:=n) h O;refine J ?_;exact⟨σ',e,u.kept,fs',u.a,⟨j,V,X,Z,i9 S u.kept.n⟩,i9 h.k u.kept.n,i9 h.d u.kept.n⟩:∃σ',(T pp<|n+2).i (.m<|.ref 214) [.g k] H=.c .none σ'/\oi H σ'.h d/\∃fs',pg σ'.h k d iw tw x gl c r2 fs');refine J ?_;rw[<-h2]at L;refine am h.st λY N q=>zF (qT (qA e1) (by rw[h2];exact h.a.L bT (N.t.m iu)<|by rfl) (xs:=[]) Y7 L) ?_;refine am F.st λY I q=>qF<|zY (Vh<|zE (σ':=⟨a8.h,[],[],Y8⟩) (qQ (v:=.m<|.ref 82)<|by rfl) (qD (qR (qA e1)<|F.a.I bT iu I.d.code Y7)<|qD (qR (qA e1)<|F.a.I bT iu I.a Y7) Y7) ?_) ⟨Y7,U,fs',F⟩;show vF pn x [r2.a] _=_;rw[yC hm];rfl
def Vj(x:Yg)(a:Yh)(b:Yh)(j:Yh):Yb<|Str×V:=[("code",.f x),("i",.d a),("n",.d b),("j",.d j)]
def A4(x:Yg)(a b:Yh)(H:Hp)(j:Yh)(σ:St):Prop:=Fx σ H<|Vj x a b j
def Vk(x:Yg)(a b:Yh)(H:Hp)(u:Yh)(fuel:Y9)(σ:St):Prop:=∃j,A4 x a b H j σ/\Cb x b fuel j=Y6 u
theorem Vl{j F:Yh}(h:A4 x a b H j σ)(u:Cb x b 1000 j=Y6 F):Gd (ex KO (T pp n) σ)<|C8<|A4 x a b H F:=by refine xB (Vk x a b H F) ⟨j,h,u⟩ ?_;rintro fuel σ⟨j,h,u⟩;cases fuel with|zero=>cases u|succ fuel=>
 refine⟨fuel,Y7,?_⟩;by_cases hj:j<b
 .obtain u:=bi hj u;refine jh u λc hc u=>⟨_,σ,u9 " \t" c,(vB (uL (qA<|h.g "j" Y7)<|qA<|h.g "n" Y7) λw=>zw (vA (z:="") (h.g "code" Y7) (qA<|h.g "j" Y7) hc) Y7).trans<|by rw[i7 hj,sL],Y7,λe=>?_,λe=>?_⟩;.obtain u:=bi e u;exact kb (qS (qA<|h.g "j" Y7) Y7)<|qC ⟨j+1,h.J,u⟩
  .replace u:=bc (by rw[e];decide) u;obtain rfl:=c0 u;exact qC ⟨Y7,h⟩
 .replace u:=bc hj u;obtain rfl:=c0 u;exact⟨_,σ,Yc,(vB (q:=Yc) (uL (qA<|h.g "j" Y7)<|qA<|h.g "n" Y7) λq=>g9 (k9 q) hj).trans<|by rw[n9 hj],Y7,λe=>pz e,λw=>qC ⟨Y7,h⟩⟩
theorem Vm(h:pg H k d iw tw x gl c r2 fs){y:Yg}(L:Cd x r2.a r2.b=Y6 y):∃σ',(T pp<|n+2).i (.m<|.ref 242) [.g k] H=.c (.f y) σ'/\σ'.h=H:=by refine am h.st λN F q=>am (jl L) λO J I=>?_;subst I;refine DE h iu (b:=KP) (by rfl) λσ e1 e0=>qF<|C5 (a7:=σ) (zt (qD (qR (qA e1)<|by erw[e0];exact h.a.I bT iu F.a Y7)<|qD (qR (qA e1)<|by erw[e0];exact h.a.I bT iu F.b Y7) Y7)<|by show 2<=k8;decide) ?_;obtain u:=((Fx.O e0 e1).I "i"<|.d r2.a).I "n"<|.d r2.b;generalize(σ.F "i"<|.d r2.a).F "n" (.d r2.b)=σ at u⊢;refine zA u (qA<|u.g "i" Y7) λσ u=>zA u (qR (qA<|u.g "self" Y7)<|by erw[u.1];exact h.a.I bT iu F.d.code Y7) λσ u=>?_;refine qK<|(Vl (u.L<|by rfl) J).mono ?_;rintro f σ'⟨rfl,hA⟩;exact qF<|zY (vK (qA<|hA.g "code" Y7) (qA<|hA.g "i" Y7) (qA<|hA.g "j" Y7) Y7) ⟨Y7,hA.1⟩
end
section
variable{pp:dE}{n k d j:Y9}{H:Hp}{σ:St}{Q:Fl->St->Prop}{x:Yg}{e sp:Yh}{fs:ly}{iw tw:Yh}{c:Y9}{r2:R2}{gl:Ln}
theorem DF{cx:Cx}{i:Yh}:ev cx (.k i) σ=.c (.d i) σ:=Y7
theorem Mm{cx:Cx}{y:Yg}:ev cx (.h y) σ=.c (.f y) σ:=Y7
def Vn(x:Yg)(k:Y9)(i:Yh):Yb<|Str×V:=[("self",.g k),("code",.f x),("i",.d i)]
def A5(x:Yg)(k:Y9)(H:Hp)(i:Yh)(σ:St):Prop:=Fx σ H<|Vn x k i
def Vo(sp:Yh)(e:Yh)(f:V):Yb<|Str×V:=[("startpos",.d sp),("endpos",.d e),("found",f)]
def A6(sp e:Yh)(f:V)(σ:St):Prop:=Fx σ σ.h<|Vo sp e f
def Mn(F:Y9->Yh->Yd Yh)(x:Yg)(k:Y9)(H:Hp)(j:Yh)(fuel:Y9)(σ:St):Prop:=∃i,A5 x k H i σ/\F fuel i=Y6 j
theorem Vp{i j:Yh}(h:A5 x k H i σ)(u:kR x 1000 i=Y6 j):Gd (ex KF (T pp n) σ)<|C8<|A5 x k H j:=by refine xB (Mn (kR x) x k H j) ⟨i,h,u⟩ ?_;rintro fuel σ⟨i,h,u⟩;cases fuel with|zero=>cases u|succ fuel=>
 refine⟨fuel,Y7,am (ji<|u) λc hc u=>⟨_,σ,u9 " \t" c,zw (vA (z:="") (h.g "code" Y7) (qA<|h.g "i" Y7) hc) Y7,Y7,λq=>?_,λq=>?_⟩⟩;.replace u:=bi q u;exact kb (qS (qA<|h.g "i" Y7) Y7)<|qC ⟨i+1,h.J,u⟩
 .replace u:=bc (by erw[q];decide) u;obtain rfl:=c0 u;exact qC ⟨Y7,h⟩
theorem Vq{i j:Yh}(h:A5 x k H i σ)(u:se x 1000 i=Y6 j):Gd (ex KI (T pp n) σ)<|C8<|A5 x k H j:=by refine xB (Mn (se x) x k H j) ⟨i,h,u⟩ ?_;rintro fuel σ⟨i,h,u⟩;cases fuel with|zero=>cases u|succ fuel=>
 refine⟨fuel,Y7,am (ji<|u) λc hc u=>⟨_,σ,!ZL " \t\n" c,Ml (vA (z:="") (h.g "code" Y7) (qA<|h.g "i" Y7) hc) Y7,Y7,λq=>?_,λq=>?_⟩⟩;.replace u:=bc (by rw[fU]at q;rw[q];decide) u;exact kb (qS (qA<|h.g "i" Y7) Y7)<|qC ⟨i+1,h.J,u⟩
 .replace u:=bi (by simpa using q) u;obtain rfl:=c0 u;exact qC ⟨Y7,h⟩
theorem Vr{i lev:Yh}{ch:Yg}{t:Yj}(h:A5 x k H i σ)(F:σ.I "level"<|.d lev)(hc:σ.I "ch"<|.f ch)(u:Ce x i lev ch=Y6 t):ev (T pp n).c KG σ=.c (.j t) σ:=by
 obtain e1:=xQ (cx:=(T pp n).c) (qA F)<|show ev (T pp n).c (.k 0) σ=.c (.d 0) σ from Y7;obtain e2:=jW (cx:=(T pp n).c) (qA hc)<|show ev (T pp n).c (.h "=") σ=.c (.f "=") σ from Y7;by_cases I:lev=0/\ch="="
 .obtain⟨rfl,rfl⟩:=I;obtain⟨p,hp,u⟩:=ji u;obtain e3:ev (T pp n).c (.H (.j .Eq "i"<|.k 0)<|.j .NotIn (.q "code"<|.t .Sub "i"<|.k 1)<|.h "=<>!") σ=.c (.j p) σ:=by
   by_cases hi:i=0;.replace hp:=bi hi hp;obtain rfl:=c0 hp;subst hi;exact yb (p:=Ye) (q:=Ye) (xQ (cx:=(T pp n).c) (qA<|h.g "i" Y7)<|DF (i:=0)) λq=>su q
   .replace hp:=bc hi hp;obtain⟨c,hc,rfl⟩:=jl hp;have:=yb (q:=!ZL "=<>!" c) (xQ (cx:=(T pp n).c) (qA<|h.g "i" Y7)<|DF (i:=0))<|λw=>Ml (vA (z:="") (h.g "code" Y7) (kJ (qA<|h.g "i" Y7) DF) hc) Mm;rw[Yl.mpr hi]at this;exact this
  refine vB (p:=Ye) e1 λw=>vB (p:=Ye) e2 λw=>?_;cases p with|true=>exact vB (q:=t) e3<|λq=>by obtain⟨d,hd,rfl⟩:=jl u;exact LI (vA (z:="") (h.g "code" Y7) (qS (qA<|h.g "i" Y7) DF) hd)<|Mm (y:="=")|false=>obtain rfl:=c0 u;exact vB (q:=Yc) e3 λq=>g9 q iu
 .replace u:=bc I u;obtain rfl:=c0 u;by_cases F:lev=0;.rw[Yl.mpr λq=>I ⟨F,Str.rl q⟩]at e2;subst F;exact vB (p:=Ye) e1 λw=>vB (q:=Yc) e2 λq=>pz q
  .rw[Yl.mpr F]at e1;exact vB (q:=Yc) e1 λq=>pz q
def Mo(x:Yg)(k:Y9)(H:Hp)(sp e:Yh)(r:Yh×Yj)(fuel:Y9)(σ:St):Prop:=∃i lev,A5 x k H i σ/\A6 sp e (.d 0) σ/\σ.I "level" (.d lev)/\x7 x e fuel i lev=Y6 r
def Mp(x:Yg)(k:Y9)(H:Hp)(sp e:Yh)(r:Yh×Yj)(f:Fl)(σ':St):Prop:=f=.a/\A5 x k H r.1 σ'/\A6 sp e (.d<|if r.2 then 1 else 0) σ'
set_option tactic.hygienic true in theorem Vs{i lev:Int}{r:Int×Bool}(h:A5 x k H i σ)(F:A6 sp e (.d 0) σ)(I:σ.I "level"<|.d lev)(u:x7 x e 1000 i lev=some r):Gd (ex KH (T pp n) σ)<|Mp x k H sp e r:=by refine xB (Mo x k H sp e r) ⟨i,lev,h,F,I,u⟩ ?_;rintro fuel σ⟨i,lev,h,F,I,u⟩;cases fuel with|zero=>cases u|succ fuel=>
 refine⟨fuel,Y7,_,σ,Yk<|i<e,uL (qA<|h.g "i" Y7)<|qA<|F.g "endpos" Y7,Y7,λq=>?_,λq=>?_⟩
 .replace u:=bi (k9 q) u;refine jh u λch hc u=>kb (vA (z:="") (h.g "code" Y7) (qA<|h.g "i" Y7) hc) ?_;obtain hch:=@qH σ "ch"<|.f ch;replace h:A5 x k H i _:=h.F "ch" (.f ch) Y7;replace F:A6 sp e (.d 0) _:=F.F "ch" (.f ch) Y7;replace I:=@qG σ "ch" "level" (.f ch) _ iu I;generalize σ.F "ch" (.f ch)=σ at h F I hch⊢;have next:∀(σ:St)(J:Yh),A5 x k H i σ->A6 sp e (.d 0) σ->σ.I "level" (.d J)->x7 x e fuel (i+1) J=Y6 r->Gd (ex AK (T pp n) σ) (LQ (Mo x k H sp e r fuel)<|Mp x k H sp e r):=λσ J a b c u=>kb (qS (qA<|a.g "i" Y7) Y7)<|qC ⟨i+1,J,a.J,b.F "i" _ Y7,ru c,u⟩;have tail:∀{b:S}{σ:St}{Q:Fl->St->Prop},Gd (ex b (T pp n) σ) Q->Gd (ex b (T pp n) σ) (zu .g (T pp n) Q):=λg=>g.mono λf σ' w=>by cases f with|a=>exact qC w|_=>exact w
  refine yK (zw (qA hch) Y7) (λX=>tail ?_) λX=>tail ?_;.replace u:=bi X u;exact kb (qS (qA I) Y7)<|next _ (lev+1) (h.F "level" _ Y7) (F.F "level" _ Y7) qH u
  replace u:=bc (by rw[X];decide) u;refine yK (zw (qA hch) Y7) (λY=>tail ?_) λY=>tail ?_
  .replace u:=bi Y u;by_cases N:lev=0;.rw[d9 N]at u;exact qF<|zL (qA I) (t:=Yc) (by rw[N];rfl) (λz=>pz z) λy=>qC<|next _ lev h F I u
   .rw[d8 N]at u;exact qF<|zL (qA I) (t:=Ye) (by show Y6 (lev !=0)=_;rw[l_.mpr N]) (λy=>kb (kJ (qA I) Y7)<|qC<|next _ (lev-1) (h.F "level" _ Y7) (F.F "level" _ Y7) qH u) λz=>su z
  replace u:=bc (by rw[Y];decide) u;obtain ec:∀z:Yg,(ch.cps.toList==z.cps.toList)=Ye↔ch=z:=λz=>⟨λw=>Str.rl<|gL w,λw=>by rw[w];exact iI _⟩;refine yK (yb (jW (qA hch) Y7) λy=>jW (qA hch) Y7) (λU=>tail ?_) λU=>tail ?_;.rw[fX,ec,ec]at U;obtain u:=bi U u;refine jh u λr0 Z u=>am (ji u) λm a0 u=>?_;subst a0;exact kb (DB (p:=m.1) (e:=m.2)<|GL (b:=80) (code:=kf) (by rfl) (by rfl) (h.g "code" Y7) (qA<|h.g "i" Y7) (qA<|F.g "endpos" Y7) Z)<|qC ⟨(m.2:Y9),lev,h.J,F.F "i" _ Y7,ru I,u⟩
  have L:¬(ch="\""\/ch="'"):=λw=>by rw[<-ec,<-ec,<-fX,U]at w;exact pz w
  replace u:=bc L u;refine yK (jW (qA hch) Y7) (λO=>tail ?_) λO=>tail ?_;.obtain u:=bi ((ec _).mp O) u;clear L ec tail next I hch;obtain rfl:=c0 u;exact qF<|Mine.Lake.q9 ⟨Y7,h,F⟩
  replace u:=bc (λw=>by rw[w]at O;exact su O) u;refine jh u λt ht u=>yK (Vr h I hch ht) (λV=>tail ?_) λV=>tail ?_;.replace u:=bi V u;clear L ec tail next I hch;obtain rfl:=c0 u;exact kb (v:=.d 1) Y7<|qF<|Mine.Lake.q9 ⟨Y7,h.F "found" _ Y7,F.J⟩
  .obtain u:=bc (by rw[V];decide) u;exact next σ lev h F I u
 .replace u:=bc (eE q) u;obtain rfl:=c0 u;exact qC ⟨Y7,h,F⟩
theorem Vt{z:X}{y:Yg}{m:Yd<|Nat×Y9}(hz:ev (T pp n).c z σ=.c (.f y) σ)(hm:pq rt y []=Y6 m):ev (T pp n).c (.m (.g "_twin_re_7") "match"<|.d z .l) σ=.c (ul m) σ:=by
 refine qT (σ':=⟨σ.h,[],[],Y8⟩) (vo:=.m<|.ref 73) (vf:=.m<|.builtin "re.Pattern.match") (first:=[.m<|.ref 73]) (qQ<|by rw[bT.b];rfl) ?_ (qD hz Y7) ?_;.rw[bT.c];show Gg (qd pp) "match" 73=_;refine bj Y7 ?_;rfl
 .rw[bT.a];show nz "re.Pattern.match" [.m<|.ref 73,.f y] _=_;show vF rt y [] _=_;rw[yC hm];rfl
theorem Mq{a:X}{v:V}{b:Yj}(F:ev (T pp n).c a σ=.c v σ)(u:nc σ.h v=Y6 b):ev (T pp n).c (.J a) σ=.c (.j !b) σ:=by exact zJ5 TO<|zJ5 (Rs.u F)<|zJ5 u Y7
theorem Mr{i:Yh}(h:pg H k d iw tw x gl c r2 fs)(h5:A5 x k H i σ)(F:pa (zP x r2.a i) tw):Gd (ex KJ (T pp n) σ) λf σ'=>sk f σ'=.c (.d<|((mh tw.toNat<|zP x r2.a i).length:Y9)+1) σ'/\σ'.h=H:=by refine am h.st λI u q=>?_;exact qF<|zY (qS (zE (σ':=⟨σ.h,[],[],Y8⟩) (qQ<|Bv bT) (qD (qT (σ':=⟨σ.h,[],[],Y8⟩) (vK (qA<|h5.g "code" Y7) (qR (qA<|h5.g "self" Y7)<|by rw[h5.1];exact h.a.I bT iu u.a Y7) (qA<|h5.g "i" Y7) Y7) (zV bT<|by rfl) (qD (qR (qA<|h5.g "self" Y7)<|by rw[h5.1];exact h.a.I bT iu u.d.tw Y7) Y7)<|by rw[bT.a];show nz "str.expandtabs" [.f<|zP x r2.a i,.d tw] _=_;exact d9 F) Y7)<|by rw[bT.a,Du];rfl) Y7) ⟨Y7,h5.1⟩
theorem last_run{u:Yh×Yj}{i:Yh}{f:V}(h:pg H k d iw tw x gl c r2 fs)(h5:A5 x k H u.1 σ)(F:A6 sp e f σ)(J:nc σ.h f=Y6 u.2)(hi:(if u.2 then Y6 u.1 else se x 1000 sp)=Y6 i)(I:pa (zP x r2.a i) tw):Gd (ex KK (T pp n) σ) λf σ'=>sk f σ'=.c (.d<|((mh tw.toNat<|zP x r2.a i).length:Y9)+1) σ'/\σ'.h=H:=by
 refine qM (Mq (qA<|F.g "found" Y7) J) (λq=>?_) λq=>?_;.obtain hi:=bc (by rw[fU]at q;rw[q];decide) hi;refine kb (qA<|F.g "startpos" Y7)<|qK<|(Vq (show A5 x k H sp<|σ.F "i" (.d sp)from h5.J) hi).mono ?_;rintro f σ'⟨rfl,h'⟩;exact qC<|Mr h h' I
 .replace hi:=bi (by simpa using q) hi;obtain rfl:=c0 hi;exact Mr h h5 I
theorem Vu{y:Yg}(h:pg H k d iw tw x gl 1 r2 fs)(I:Cf x r2.a=Y6 y)(N:pa y tw):∃σ',(T pp<|n+2).i (.m<|.ref 235) [.g k] H=.c (.d<|((mh tw.toNat y).length:Y9)+1) σ'/\σ'.h=H:=by
 refine am h.st λO L z=>am (ji I) λsp h1 I=>?_;refine jh I λr h2 I=>am (ji I) λu h3 I=>am (jl I) λi h4 J=>?_;subst J;refine DE h iu (b:=KL) (by rfl) λσ e1 e0=>qY ?_ ?_;.erw[xQ (qR (qA e1)<|by rw[e0];exact h.a.I bT iu L.d.d Y7)<|qQ<|Dx bT];rfl
 refine zA (Fx.O e0 e1) (qR (qA e1)<|by erw[e0];exact h.a.I bT iu L.d.code Y7) λσ F=>zA F (qR (qA<|F.g "self" Y7)<|by erw[F.1];exact h.a.I bT iu L.a Y7) λσ F=>qK<|(Vp (F.L<|by rfl) h1).mono ?_;rintro f σ⟨rfl,F⟩;refine zA F (qA<|F.g "i" Y7) λσ F=>zA F (qS (Mj (F.g "code" Y7)<|qA<|F.g "startpos" Y7) Y7) ?_;generalize gE x rz sp+1=e at h2 h3⊢;refineλσ F=>qF<|C7 (v:=.d 0) Y7 ?_;obtain F:=(F.I "found"<|.d 0).I "level"<|.d 0;generalize(σ.F "found"<|.d 0).F "level" (.d 0)=σ at F⊢;refine qK<|(Vs (F.L<|by rfl) ⟨Y7,(F.L<|by rfl).2⟩ (F.g "level" Y7) h2).mono ?_;rintro f σ⟨rfl,h5,h6⟩;refine qK<|zL (qA<|h6.g "found" Y7) (t:=r.2) (by cases r.2<;>rfl) (λq=>?_) λq=>?_;.replace h3:=bi q h3;refine jk h3 λm hm J=>?_;subst J;refine kb (qS (qA<|h5.g "i" Y7) Y7) ?_;obtain h5:A5 x k H (r.1+1)<|σ.F "i"<|.d<|r.1+1:=h5.J;obtain h6:A6 sp e _ _:=h6.F "i" (.d<|r.1+1) Y7;generalize σ.F "i" (.d<|r.1+1)=σ at h5 h6⊢;exact kb (zR (Vt (vK (qA<|h5.g "code" Y7) (qA<|h5.g "i" Y7) (qA<|h6.g "endpos" Y7) Y7) hm) Y7<|by cases m<;>rfl)<|qC<|last_run (sp:=sp) (e:=e) (u:=(r.1+1,m.isNone)) (f:=.j m.isNone) h (h5.F "found" _ Y7) h6.J Y7 h4 N
 .replace h3:=bc (by erw[q];decide) h3;obtain rfl:=c0 h3;refine qC<|last_run (u:=(r.1,Yc)) (f:=.d 0) (sp:=sp) (e:=e) h h5 ?_ Y7 h4 N;rw[q]at h6;exact h6
end
end Mine.Lake.L09
namespace Mine.Lake.L09
open PySem PySem.Sre Mine.Lake.Re
def oj(c:Y9):Yj:=!(Yk (c<256)&&(lk.getD (12+(1+c/32)) 0).testBit (c%32))
theorem Vv(c:Y9)(sn:Z6):∃u,YV lk 9 c sn=.ok (oj c,u):=by
 obtain e:YV lk 9 c sn=if(Yk (c<256)&&(lk.getD (12+(1+c/32)) 0).testBit (c%32))=Ye then .ok (Yc,(sn.add 21).add 9)else .ok (Ye,((sn.add 21).add 9).add 0):=Y7;erw[e];unfold oj;by_cases h:(Yk (c<256)&&(lk.getD (12+(1+c/32)) 0).testBit (c%32))=Ye;.refine zJ5 h ?_;exact⟨_,Y7⟩
 .refine zJ5 ((lV _).mp h) ?_;exact⟨_,Y7⟩
def m0(code text:Yp Y9)(pos lim:Y9):M:=Ms ⟨code,text,lim,pos,0⟩ (ZA code).2 pos pos Ye [] #[] Y8 Y8<|if(ZA code).2==0 then{}else({}:Z6).add 14
theorem Vw{t:Yp Y9}{p q n:Y9}(F:p<q)(N:q<4294967295)(L:As oj t (q-p) p=n):zG lk t p q=Y6 (if n=0 then Y8 else Y6 (p,p+n)):=by
 refine bn (IF (text:=t) Vv (Ze 4294967295<|q-p) p 0<|((({}:Z6).add 14).add 24).add 13) λsn J=>?_;obtain hm:Ze 4294967295 (q-p)=q-p:=fE<|g8 (iY _ _)<|n6 N;rw[hm,fA,L]at J;obtain e2:(m0 lk t p q).step=if n<1 then M.say {m0 lk t p q with seen:=sn} Yc else sP {m0 lk t p q with seen:=sn,pos:=p+n} .giveBack n {}:=by have:(m0 lk t p q).step=if((1:Y9):Yh)>(q:Yh)-(p:Yh)then M.say {m0 lk t p q with seen:=(m0 lk t p q).seen.add 24} Yc else match x_ lk t 9 (Ze 4294967295 ((q:Yh)-(p:Yh)).toNat) p 0<|((({}:Z6).add 14).add 24).add 13with|.error I=>M.stick {m0 lk t p q with seen:=(m0 lk t p q).seen.add 24} I|.ok (n,seen)=>if n<1 then M.say {m0 lk t p q with seen:=seen} Yc else sP {m0 lk t p q with seen:=seen,pos:=p+n} .giveBack n {}:=Y7;exact zJ5 this<|zJ5 (d8<|by exact F_.mpr<|oW<|Int.ofNat_le.mpr F)<|zJ5 (by simp:((q:Yh)-(p:Yh)).toNat=q-p)<|zJ5 hm<|zJ5 J Y7
 unfold zG BK;rw[(by show(if((ZA Mine.Lake.L09.lk).1 !=0&&Yk (p<=q)&&Yk (q-p<(ZA Mine.Lake.L09.lk).1))=Ye then(m0 Mine.Lake.L09.lk t p q).say Yc else m0 Mine.Lake.L09.lk t p q)=_;rw[d8];rw[j0,t4];exactλO=>YR.mpr (nE<|F) O.2:forMatch Mine.Lake.L09.lk t 0 p q Yc Yc=m0 Mine.Lake.L09.lk t p q),show(20000:Y9)=4+19996 from Y7,xM];by_cases u:n=0;.subst u;rw[(by show dB 3 (m0 lk t p q).step=_;rw[e2];rfl:dB 4 (m0 lk t p q)=dB 3 (M.say {m0 lk t p q with seen:=sn} Yc)),zI<|by rfl];rfl
 .rw[(by show dB 3 (m0 lk t p q).step=_;rw[e2,d8<|λq=>u<|Nat.lt_one_iff.mp q]:dB 4 (m0 lk t p q)=dB 3 (sP {m0 lk t p q with seen:=sn,pos:=p+n} .giveBack n {})),zI<|by rfl,d8 u];rfl
def By(c:Y9):Yj:=!(aJ c||c==35||c==92)
theorem Mt(ch:Y9)(sn:Z6):∃u,YV pk 17 ch sn=.ok (By ch,u):=by obtain e:YV pk 17 ch sn=if aJ ch !=(12%2==1)then .ok (Yc,((sn.add 21).add 8).add 67)else if(ch==35)then .ok (Yc,(((sn.add 21).add 8).add 67).add 16)else if(ch==92)then .ok (Yc,((((sn.add 21).add 8).add 67).add 16).add 16)else .ok (Ye,(((((sn.add 21).add 8).add 67).add 16).add 16).add 0):=Y7;simp only[e];unfold By;cases F:aJ ch with|true=>exact⟨_,Y7⟩|false=>cases h1:ch==35 with|true=>exact⟨_,Y7⟩|false=>cases h2:ch==92 with|true=>exact⟨_,Y7⟩|false=>exact⟨_,Y7⟩
def jY(l:Ln):Yd Y9:=(l.dropWhile mf).head?.bind λc=>if By c then Y6 ((l.takeWhile mf).length+1)else Y8
theorem Vx{c:Y9}(h:mf c):By c=Yc:=by rcases(fX _ _▸h:_\/_)with e|e<;>(erw[gL e];rfl)
theorem Vy{t:Yp Y9}{p q:Y9}{l:Ln}(h:At t q p l)(F:q<1000):zG pk t p q=Y6 ((jY l).map λk=>(p,p+k)):=by cases u:l with|nil=>subst u;exact vN iu h.le<|by rw[h.L,gV];decide|cons d r=>
 rw[<-u];obtain hpq:p<q:=by rw[u]at h;exact h.J.1
 refine(wH (code:=pk) (text:=t) (p:=p) (q:=q) (r:=(jY l).map (p+·)) hpq λsn=>ka.mono (CY (c:=⟨pk,t,q,p,0⟩) (K:=2) (k:=10000) h (⟨by decide,by rfl,by rfl,by rfl,by rfl,Fu λch sn=>Y7⟩:oy pk 5 11 4294967295 mf) Y7 (iE F iu) iu (λpos h1 h2 hd om fs sn Q k I hk=>ka.mono (CQ (c:=⟨pk,t,q,p,0⟩) (w:=13) (a:=10) (b:=By<|t.getD pos 0) (by show 17<pk.size;decide) (by rfl) iu (by rfl) (λy sn=>Mt _ sn) (λy z=>by rw[Vx h2]at z;exact pz z) λy sn=>hk ..)<|m7 (k+1) 1)
  λs2 back sn=>Fs (c:=⟨pk,t,q,p,0⟩) (k:=9999) (w:=13) (a:=10) s2 (by show 17<pk.size;decide) (by rfl) iu (by rfl) Mt (λd r e hd y sn=>?_) λz sn=>?_) iu).trans (by cases jY l<;>rfl);.rw[(by unfold jY;rw[e];exact bj hd Y7:jY l=Y6 ((l.takeWhile mf).length+1))];exact uI (k:=9998) (by show 27<pk.size;decide) (by rfl) λsn=>ka.mono (Av<|by rfl)<|by show 2<=9998;decide
 .have e:jY l=Y8:=by unfold jY;cases hd:l.dropWhile mf with|nil=>rfl|cons c r=>exact bk (by rw[z c r hd];decide) Y7
  exact ka.mono (back (k:=1) λy y y y y=>by rw[e];exact CW)<|g8 (i8 (eK 3<|show q+1<=1000 from F) 1) iu
theorem Mu{code:Yp Y9}{i:Y9}(h:∀ch sn,YV code i ch sn=if aJ ch !=(12%2==1)then .ok (Ye,(sn.add 8).add 67)else .ok (Yc,((sn.add 8).add 67).add 0))(ch:Y9)(sn:Z6):∃u,YV code i ch sn=.ok (aJ ch,u):=by rw[h];cases F:aJ ch with|true=>exact⟨_,Y7⟩|false=>exact⟨_,Y7⟩
def AQ(l:Ln):Yj:=(l.dropWhile aJ).head?==Y6 92
theorem DG{f:Y9->Yj}(l:Ln):(l.takeWhile f).length<=l.length:=rD<|mT _
theorem Bz{f:Y9->Yj}(l:Ln):(l.dropWhile f).length<=l.length:=rD<|List.dropWhile_sublist _
theorem uW{p q:Y9}(u:q<1000):Ze 4294967295 (q-p)=q-p:=fE<|g8 (iY _ _)<|bu u
theorem Vz{t:Yp Y9}{p q:Y9}{l:Ln}(h:At t q p l)(F:q<1000):∃r,zG rt t p q=Y6 r/\r.isSome=AQ l:=by cases u:l with|nil=>subst u;exact⟨Y8,vN iu h.le<|by rw[h.L,gV];decide,Y7⟩|cons d r=>
 rw[<-u];obtain hpq:p<q:=by rw[u]at h;exact h.J.1
 refine⟨_,wH (code:=rt) (text:=t) (p:=p) (q:=q) (r:=if AQ l then Y6 (p+(l.takeWhile aJ).length+1)else Y8) hpq λsn=>ka.mono (CY (c:=⟨rt,t,q,p,0⟩) (K:=2) (k:=10000) h (⟨by decide,by rfl,by rfl,by rfl,by rfl,Mu λch sn=>Y7⟩:oy rt 5 9 4294967295 aJ) Y7 (iE F iu) iu (λpos h1 h2 hd om fs sn Q k I hk=>ka.mono (CR (c:=⟨rt,t,q,p,0⟩) (d:=92) (by show 15<rt.size;decide) (by rfl) (by rfl) (λw z=>by rw[show t.getD pos 0=92 from z]at h2;exact g9 h2 iu) λw sn=>hk ..)<|m7 (k+1) 1)
  λs2 back sn=>B9 (c:=⟨rt,t,q,p,0⟩) (k:=9999) (d:=92) s2 (by show 15<rt.size;decide) (by rfl) (by rfl) (λr e w sn=>?_) λe sn=>?_) iu,?_⟩;.rw[d9<|by unfold AQ;rw[e];rfl];exact uI (k:=9998) (by show 17<rt.size;decide) (by rfl) λsn=>ka.mono (Av<|by rfl)<|by show 2<=9998;decide
 .obtain e:¬AQ l=Ye:=λz=>by unfold AQ at z;cases hd:l.dropWhile aJ with|nil=>rw[hd]at z;cases z|cons c r=>rw[hd]at z;exact e r<|hd.trans<|i6 (·::r)<|c0<|gL z
  exact ka.mono (back (k:=1) λw w w w w=>by rw[d8 e];exact CW)<|g8 (i8 (eK 3<|show q+1<=1000 from F) 1) iu
 .cases AQ l<;>rfl
def rh:Yb<|Ln:=[[114,101,116,117,114,110],[98,114,101,97,107],[99,111,110,116,105,110,117,101],[114,97,105,115,101],[112,97,115,115]]
def yu(l:Ln):Yj:=match l with|[]=>Ye|d::_=>!isWordUni d
def x8(l:Ln):Yb (Ln)->Yd Y9:=lr Y8 λw q r=>if w.isPrefixOf l&&yu (l.drop w.length)then Y6 w.length else r
def qp(l:Ln):Yj:=(x8 (l.dropWhile aJ) rh).isSome
section
variable{t:Yp Y9}{p q:Y9}{l:Ln}
theorem VA:∀{w l:Ln}{p:Y9},At t q p l->qu t q p w=w.isPrefixOf l:=by intro F;induction F with|nil=>intro _ _ _;cases‹Ln›<;>rfl|cons d w u=>exact@fun|[],p,h=>by show(Yk (p<q)&&t.getD p 0==d&&qu t q (p+1) w)=Yc;rw[h.L,n9<|fD _];rfl|c::l,p,h=>by refine bq h.J λh1 h2 h3=>?_;show(Yk (p<q)&&t.getD p 0==d&&qu t q (p+1) w)=(d==c&&w.isPrefixOf l);rw[i7 h1,h2,u h3,sL,Bool.beq_comm]
theorem At.skip:∀(n:Y9){l:Ln}{p:Y9},At t q p l->n<=l.length->At t q (p+n) (l.drop n):=by intro F;induction F with|zero=>exact@λz z h z=>h|succ n u=>exact@fun|[],_,_,hn=>g9 hn<|dZ _|d::l,p,h,hn=>by erw[show p+(n+1)=p+1+n by exact lF<|m5 _ 1 _];exact u h.J.2.2<|u7 hn
theorem VB{w:Ln}(h:At t q p l)(F:w.isPrefixOf l)(u:w≠[]):t.getD (p+w.length-1) 0=w.getLast u:=by obtain⟨r,I⟩:=Z4.mp F;obtain h2:=At.skip (w.length-1) h (by have:=(Z4.mp F).length_le;exact g8 (iY _ 1) this);rw[(by rw[<-I,(by rw[<-rS,<-v5,fV u]:w++r=w.dropLast++w.getLast u::r)];exact List.drop_left' lO:l.drop (w.length-1)=w.getLast u::r)]at h2;rw[show p+w.length-1=p+(w.length-1)by exact mY (YT.mpr u) _];exact h2.J.2.1
theorem Mv(h:At t q p l)(u:Yb<|Ln)(L:∀w∈u,w.getLast?.any isWordUni):my t q p u=(x8 l u).map (p+·):=by induction u with|nil=>rfl|cons w u O=>
  have I:=L w<|.head _;obtain⟨F,I⟩:∃F:w≠[],isWordUni (w.getLast F)=Ye:=by cases w with|nil=>exact pz I|cons d r=>exact⟨mK _ _,by rw[w8<|mK d r]at I;exact I⟩
  show(if(qu t q p w&&Re.tO t q (p+w.length))=Ye then Y6 (p+w.length)else my t q p u)=pV _ (if(w.isPrefixOf l&&yu (l.drop w.length))=Ye then Y6 w.length else x8 l u);rw[VA h,O λN J=>L N<|.tail _ J];cases e:w.isPrefixOf l with|false=>rfl|true=>rw[(by obtain hpos:0<w.length:=YT.mpr F;obtain hle:=(Z4.mp e).length_le;obtain h2:=At.skip w.length h hle;unfold Re.tO;refine zJ5 (VB h e F)<|zJ5 I<|zJ5 (i7<|pC _ hpos)<|zJ5 (l_.mpr<|eZ<|i9 hpos<|g8 hle<|cn h.O) ?_;cases e:l.drop w.length with|nil=>rw[e]at h2;refine zJ5 h2.L<|zJ5 (n9<|fD _) ?_;rfl|cons d r=>rw[e]at h2;refine bq h2.J λa b z=>?_;refine zJ5 (i7 a)<|zJ5 b ?_;show(Ye&&(Ye&&Ye !=(Ye&&isWordUni d)))=!isWordUni d;cases isWordUni d<;>rfl:Re.tO t q (p+w.length)=yu (l.drop w.length)),sL];cases yu<|l.drop w.length<;>rfl
theorem Mw{e:Y9}{u:Yb<|Ln}(h:x8 l u=Y6 e):∃w∈u,e=w.length/\w.length<=l.length:=by induction u with|nil=>cases h|cons w r F=>
  by_cases z:(w.isPrefixOf l&&yu (l.drop w.length))=Ye;.obtain h:=c0<|(d9 z).symm.trans h;exact⟨w,.head _,h.symm,(Z4.mp (YE.mp z).1).length_le⟩
  .exact am (F<|(d8 z).symm.trans h) λw a b=>⟨w,.tail _ a,b⟩
end
theorem VC:oy pn 5 9 4294967295 aJ:=⟨by decide,by rfl,by rfl,by rfl,by rfl,Mu λch sn=>Y7⟩
theorem VE:CZ pn 88:=⟨by decide,by rfl,by rfl,by decide,by rfl⟩
theorem Mx{t:Yp Y9}{p q:Y9}{l:Ln}(h:At t q p l)(F:q<300):∃r,zG pn t p q=Y6 r/\r.isSome=qp l:=by
 by_cases hs:q-p<4;.refine⟨Y8,vN iu h.le hs,?_⟩;obtain hl:=h.O;cases z:x8 (l.dropWhile aJ) rh with|none=>unfold qp;rw[z];rfl|some e=>obtain⟨w,I,_,z⟩:=Mw z;exact(by subst hl;rw[dD]at hs;exact fD _<|i9 hs<|g8 (k9<|List.all_eq_true.mp (by decide+kernel:rh.all (λw=>Yk<|4<=w.length)=Ye) w I)<|g8 z<|Bz (f:=aJ) l:False).elim
 refine⟨(my t q (p+(l.takeWhile aJ).length) rh).map λe=>(p,e),wH (code:=pn) (text:=t) (p:=p) (q:=q) (Nat.lt_sub_iff_add_lt'.mp<|show 3<_-_ from YR.mp hs) λsn=>ka.mono (IM (c:=⟨pn,t,q,p,0⟩) (k:=2) h VC (t:=15) Y7 ⟨by show 15<pn.size;decide,by rfl⟩ (by rfl) VE (Yx.mp jg:∀w∈rh,(w.head?.any λd=>!Zq d)=Ye) (iE F iu) (by show 0<90;decide) (λe u pc pos om sn=>?_)<|λu pc pos hd om sn=>?_)<|g8 (i8 (eK 50<|r6 (n6 F) 2) 2) iu,by rw[Mv h.N.2 rh<|List.all_eq_true.mp jg,Option.map_map,Option.isSome_map];rfl⟩;.rw[u];exact ka.mono (Av<|by rfl) iu
 .rw[u];exact ka.mono CW iu
def mo(c:Y9)(b:Yj)(l:Ln):Y9:=lr (λq=>0) (λd l r b=>if b then r Yc+1 else if d=c then(if l.take 2=[c,c]then 3 else r Yc+1)else if d=92/\l=[]then 0 else r (d==92)+1) l b
def nq(c:Y9)(b:Yj)(l:Ln):Y9:=lr (λq=>0) (λd l r b=>if b then r Yc+1 else if d=c then 1 else if d=10\/d=92/\l=[]then 0 else r (d==92)+1) l b
def ol:Ln->Y9|[]=>0|c::l=>if l.take 2=[c,c]then mo c Yc (l.drop 2)+3 else nq c Yc l+1
section
variable{c d:Y9}{l:Ln}
theorem GS:mo c Yc (d::l)=if d=c then(if l.take 2=[c,c]then 3 else mo c Yc l+1)else if d=92/\l=[]then 0 else mo c (d==92) l+1:=Y7
theorem My:nq c Yc (d::l)=if d=c then 1 else if d=10\/d=92/\l=[]then 0 else nq c (d==92) l+1:=Y7
theorem GT:mo c Yc (c::l)=if l.take 2=[c,c]then 3 else mo c Yc l+1:=by exact bj Y7 Y7
theorem Mz(h:c≠92):mo c Yc (92::d::l)=mo c Yc l+2:=by refine ?_;refine bk (gP h)<|bk (λq=>Ab q.2) ?_;rfl
theorem DH(h1:d≠c)(h2:d≠92):mo c Yc (d::l)=mo c Yc l+1:=by exact zJ5 GS<|zJ5 (d8 h1)<|zJ5 (d8<|λq=>h2 q.1)<|zJ5 (Yl.mpr h2) Y7
theorem MA:nq c Yc (c::l)=1:=by exact bj Y7 Y7
theorem MB(h:c≠10):nq c Yc (10::l)=0:=by exact bk (gP h)<|bj (.inl Y7) Y7
theorem MC(h:c≠92):nq c Yc (92::d::l)=nq c Yc l+2:=by refine ?_;refine bk (gP h)<|bk (λq=>q.elim (λz=>g9 z iu) λz=>Ab z.2) ?_;rfl
theorem GU(h1:d≠c)(h2:d≠92)(h3:d≠10):nq c Yc (d::l)=nq c Yc l+1:=by exact zJ5 My<|zJ5 (d8 h1)<|zJ5 (d8<|λq=>q.elim h3 λz=>h2 z.1)<|zJ5 (Yl.mpr h2) Y7
end
def fT(q c:Y9):Yj:=!(c==q||c==92)
def fS(q c:Y9):Yj:=!(c==10||c==q||c==92)
theorem MD{q c:Y9}(h:fT q c):c≠q/\c≠92:=by unfold fT at h;rw[fU,iM,iR,iR]at h;exact h
theorem GV{q c:Y9}(h:fS q c):c≠q/\c≠92/\c≠10:=by unfold fS at h;simp only[fU,iM,iM,iR,iR,iR]at h;exact⟨h.1.2,h.2,h.1.1⟩
theorem VF{q c:Y9}(h:fS q c=Yc):c=q\/c=92\/c=10:=by
 unfold fS at h;simp only[Bool.not_eq_false',fX,fX,v1,v1,v1]at h;rcases h with(h|h)|h;.exact .inr<|.inr h
 .exact .inl h
 .exact .inr<|.inl h
theorem ME{q:Y9}:∀l,mo q Yc l=(l.takeWhile<|fT q).length+mo q Yc (l.dropWhile<|fT q):=by intro F;induction F with|nil=>exact  Y7|cons d l u=>
  refine zJ5 v6<|zJ5 w9 ?_;by_cases h:fT q d=Ye;.refine zJ5 (d9 h)<|zJ5 (d9 h)<|zJ5 (DH (MD h).1 (MD h).2)<|zJ5 u<|?_;exact lF<|m5 _ 1 _
  .refine zJ5 (d8 h)<|zJ5 (d8 h) ?_;exact(fA _).symm
theorem MF{q:Y9}:∀l,nq q Yc l=(l.takeWhile<|fS q).length+nq q Yc (l.dropWhile<|fS q):=by intro F;induction F with|nil=>exact  Y7|cons d l u=>
  refine zJ5 v6<|zJ5 w9 ?_;by_cases h:fS q d=Ye;.refine zJ5 (d9 h)<|zJ5 (d9 h)<|zJ5 (GU (GV h).1 (GV h).2.1 (GV h).2.2)<|zJ5 u<|?_;exact lF<|m5 _ 1 _
  .refine zJ5 (d8 h)<|zJ5 (d8 h) ?_;exact(fA _).symm
def MH(q:Y9):Ln:=[16,q,16,q,16,q,24,12,0,4294967295,13,7,21,16,q,16,92,0,1,23,37,0,4294967295,7,6,16,92,3,15,15,13,16,q,5,7,0,16,q,16,q,1,15,2,0,24,12,0,4294967295,13,7,21,16,q,16,92,0,1,18,23,9,0,1,16,q,16,q,16,q,18,15]
def MI(q w:Y9):Ln:=[16,q,24,17,0,4294967295,13,12,21,9,1024,w,268435456,0,0,0,0,0,0,1,23,24,0,4294967295,16,92,3,24,17,0,4294967295,13,12,21,9,1024,w,268435456,0,0,0,0,0,0,1,18,24,6,0,1,16,q,1,15]
structure PartAt(b:Y9)(T:Ln):Prop where
 x:∀i,i<T.length->kf.getD (b+i) 0=T.getD i 0
 le:b+T.length+1<=268
 A:b+T.length-1+1+kf.getD (b+T.length) 0=268
theorem DI{b:Y9}{T:Ln}(h:T.zipIdx.all (λx=>kf.getD (b+x.2) 0==x.1)&&Yk (b+T.length+1<=268)&&b+T.length-1+1+kf.getD (b+T.length) 0==268):PartAt b T:=by rw[j0,j0]at h;refine⟨λi hi=>?_,k9 h.1.2,gL h.2⟩;have:=Yx.mp h.1.1 (T[i],i) (by rw[List.mem_zipIdx_iff_getElem?];exact r7 hi);refine zJ5 (gL this)<|zJ5 v4<|zJ5 (r7 hi) ?_;rfl
theorem PartAt.V{b i:Y9}{T:Ln}(B:PartAt b T)(hi:i<T.length):b+i<kf.size:=iE (i9 (oA hi b)<|t9 B.le) iu
theorem DJ{code:Yp Y9}{i q:Y9}(h:∀ch sn,YV code i ch sn=if(ch==q)then .ok (Yc,(sn.add 21).add 16)else if(ch==92)then .ok (Yc,((sn.add 21).add 16).add 16)else .ok (Ye,(((sn.add 21).add 16).add 16).add 0))(ch:Y9)(sn:Z6):∃u,YV code i ch sn=.ok (fT q ch,u):=by rw[h];unfold fT;cases h1:ch==q with|true=>exact⟨_,Y7⟩|false=>cases h2:ch==92 with|true=>exact⟨_,Y7⟩|false=>exact⟨_,Y7⟩
def Ch(b c:Y9):Yj:=Yk (c<256)&&(kf.getD (b+(1+c/32)) 0).testBit (c%32)
theorem DK{b q:Y9}(u:q<256)(h:(pZ 256).all<|λc=>Ch b c==!fS q c)(c:Y9):Ch b c=!fS q c:=by
 by_cases hc:c<256;.exact gL<|List.all_eq_true.mp h c<|List.mem_range.mpr hc
 .unfold Ch fS;simp only[n9 hc,Bool.false_and,sI,Yl.mpr<|show c≠10 by exactλq=>hc<|by rw[q];decide,Yl.mpr<|show c≠q by exactλq=>hc<|by rw[q];exact u,Yl.mpr<|show c≠92 by exactλq=>hc<|by rw[q];decide];rfl
theorem DL{code:Yp Y9}{i b q:Y9}(F:∀c,Ch b c=!fS q c)(h:∀ch sn,YV code i ch sn=if Ch b ch then .ok (Yc,(sn.add 21).add 9)else .ok (Ye,((sn.add 21).add 9).add 0))(ch:Y9)(sn:Z6):∃u,YV code i ch sn=.ok (fS q ch,u):=by rw[h,F];cases fS q ch with|true=>exact⟨_,Y7⟩|false=>exact⟨_,Y7⟩
structure tc(b q:Y9):Prop extends PartAt b (MH q)where
 E:oy kf (b+6) 12 4294967295<|fT q
 G:oy kf (b+44) 12 4294967295<|fT q
 D:q≠92
structure sg(b q w:Y9):Prop extends PartAt b (MI q w)where
 M:oy kf (b+2) 17 4294967295<|fS q
 P:oy kf (b+27) 17 4294967295<|fS q
 Q:oy kf (b+46) 6 1 (·==q)K:q≠92
 H:q≠10
section
variable{t:Yp Y9}{p lim b q w pos hd:Y9}{om:Yj}{fs:Yb fF}{sn:Z6}{l:Ln}{lp:mS}
theorem tc.X(B:tc b q)(i:Y9)(hi:i<70):kf.getD (b+i) 0=(MH q).getD i 0:=B.x i hi
theorem tc.Y(B:tc b q)(i:Y9)(hi:i<70):b+i<kf.size:=B.V hi
theorem sg.Z(B:sg b q w)(i:Y9)(hi:i<54):kf.getD (b+i) 0=(MI q w).getD i 0:=B.x i hi
theorem sg.gd(B:sg b q w)(i:Y9)(hi:i<54):b+i<kf.size:=B.V hi
abbrev Cs(t:Yp Y9)(lim p:Y9):Cv:=⟨kf,t,lim,p,0⟩
theorem xY{fs:Yb fF}{n:Y9}(h:fs.length+n<6000):yI fs:=r5 (m7 _ n)<|iE h iu
theorem GW{i:Y9}{T:Ln}{lq:Yp mS}{inn:Yd Y9}(B:PartAt b T)(hi:i+1=T.length)(u:T.getD i 0=15)(ok:fs.all xg):ka (Ms (Cs t lim p) (b+i) pos hd om fs lq inn Y8 sn) (pe p<|some pos)<|fs.length+3:=by refine CT (k:=fs.length+2) (B.V<|eJ hi) ((B.x i<|eJ hi).trans u) (t:=268) ?_ λsn=>uI (c:=Cs t lim p) (k:=fs.length+1) (by show 268<kf.size;decide) (by rfl) λsn=>Av ok;.have:=B.A;rw[<-hi]at this;rw[<-this];rfl
theorem PartAt.U{i d k:Y9}{T:Ln}{lq:Yp mS}{inn:Yd Y9}{Q:M->Prop}(B:PartAt b T)(h:At t lim pos l)(hi:Nat.blt (i+1) T.length)(u:T.getD i 0=16)(F:T.getD (i+1) 0=d)(h1:∀r,l=d::r->At t lim (pos+1) r->∀sn,ka (Ms (Cs t lim p) (b+i+2) (pos+1) hd om fs lq inn Y8 sn) Q k)(h2:(∀r,l≠d::r)->∀sn,ka (Ms (Cs t lim p) (b+i) pos hd om fs lq inn (Y6 Yc) sn) Q k):ka (Ms (Cs t lim p) (b+i) pos hd om fs lq inn Y8 sn) Q<|k+1:=have hi:i+1<T.length:=Nat.le_of_ble_eq_true hi
 B9 (c:=Cs t lim p) h (B.V<|gJ hi) ((B.x i<|gJ hi).trans u) ((B.x (i+1) hi).trans F) h1 h2
theorem GX{n:Y9}{w:Ln}(h:l.take n=w):∃r,l=w++r:=⟨l.drop n,by rw[<-h,eW]⟩
theorem VG(B:tc b q)(h:At t lim pos l)(F:fs.length+10<6000)(ok:fs.all xg):ka (Ms (Cs t lim p) (b+58) pos hd om fs #[lp] Y8 Y8 sn) (pe p<|some<|pos+if l.take 3=[q,q,q]then 3 else 0)<|fs.length+20:=by
 refine CU (k:=fs.length+19) (B.Y 58 iu) (B.X 58 iu) (t:=b+68) (by show b+58+1+kf.getD (b+59) 0=_;simp only[B.X 59 iu];rfl) (xY (n:=10) F) λsn=>?_;obtain hm:kf.getD (b+58+3) 0=1:=B.X 61 iu;refine yG (k:=fs.length+18) (B.Y 68 iu) (B.X 68 iu) (l:={pc:=b+58,outer:=Y8}) Y7 (B.X 60 iu) (nV _) (xY (n:=9)<|by simp only[m4];exact F) (λy sn=>?_) λO=>g9 ⟨.inl<|by show(-1:Yh)+1<((kf.getD (b+58+3) 0:Y9):Yh);simp only[hm];decide,λz=>lz z⟩ O;have u:∀{N I J:Y9}{L:Yj}{S:Z6},(∀r,l≠q::q::q::r)->ka (Ms (Cs t lim p) N I J L (Mf .maxMore (b+69) pos om (-1+1) Ye 1 Y8::Mf .closeLoop (b+58) pos om 0 Yc 1 Y8::fs) #[lp,{pc:=b+58,outer:=Y8,count:=-1+1,began:=Y6 pos}] (Y6 1) (Y6 Yc) S) (pe p<|some<|pos+if l.take 3=[q,q,q]then 3 else 0) (fs.length+15):=λe=>by rw[d8 λz=>(GX (w:=[q,q,q]) z).elim e];exact ka.mono (CV (k:=fs.length+2+3) Y7 Y7 (xY (n:=8)<|by simp only[m4];exact n6 F)<|GW B.toPartAt (i:=69) (by rfl) (by rfl)<|by simp only[fK,fK,ok];rfl)<|by simp
 refine B.U (k:=fs.length+17) (d:=q) (i:=62) h Y7 Y7 Y7 (λr1 e1 h1 sn=>B.U (k:=fs.length+16) (d:=q) (i:=64) h1 Y7 Y7 Y7 (λr2 e2 h2 sn=>B.U (k:=fs.length+15) (d:=q) (i:=66) h2 Y7 Y7 Y7 (λr3 T h3 sn=>?_) λz sn=>u λr e=>z r ?_) λz sn=>ka.mono (u λr e=>z (q::r) ?_) cp) λz sn=>ka.mono (u λr e=>z (q::q::r) e)<|by simp
 .rw[d9<|by rw[e1,e2,T];rfl];refine yG (k:=fs.length+14) (B.Y 68 iu) (B.X 68 iu) (l:={pc:=b+58,outer:=Y8,count:=-1+1,began:=Y6 pos}) Y7 (B.X 60 iu) (by show(-1:Yh)<=-1+1;decide) (xY (n:=8)<|F) (λhy=>?_) λy sn=>ka.mono (GW B.toPartAt (i:=69) (by rfl) (by rfl)<|by simp only[fK,fK,fK,ok];rfl) (by simp only[m4,m4,m4];exact cp (k:=6));rcases hy.1 with z|z;.simp only[show kf.getD (b+58+3) 0=1 from hm]at z;exact g9 z<|show¬(-1:Yh)+1+1<((1:Y9):Yh)by decide
  .simp only[show kf.getD (b+58+3) 0=1 from hm]at z;exact g9 z iu
 .rw[e1,e2]at e;exact(r4 (r4 e).2).2
 .rw[e1]at e;exact(r4 e).2
set_option tactic.hygienic true in theorem VH(B:tc b q):∀(n:Nat)(l:Ln)(pos hd:Nat)(om:Bool)(fs:List fF)(ct:Int)(F:Option Nat)(sn:Seen),l.length=n->At t lim pos l->(∀d r,l=d::r->fT q d=false)->-1<=ct->(∀x,F=some x->x<pos)->lim<1000->fs.length+5*n+50<6000->fs.all xg->ka (Ms (Cs t lim p) (b+57) pos hd om fs #[⟨b+19,ct,F,none⟩] (some 0) none sn) (pe p<|some<|pos+mo q false l) (fs.length+30*n+40):=by intro n;induction n using rM with|ind n ih=>
 intro l pos hd om fs ct F sn Z h hl h3 h4 Y T ok;have next:∀(l1:Ln)(I a1:Y9)(sn:Z6)(f1 f2:fF),l1.length<n->At t lim I l1->pos<I->xg f1=Ye->xg f2=Ye->ka (Ms (Cs t lim p) (b+44) I a1 om (f1::f2::fs) #[⟨b+19,ct+1,Y6 pos,Y8⟩] (Y6 0) Y8 sn) (pe p<|some<|I+mo q Yc l1) (fs.length+30*n+20):=by intro l1 I a1 sn f1 f2 V h1 hp o1 o2;refine cg (h1.N (f:=fT q)) λs1 s2=>?_;obtain d1:=Bz (f:=fT q) l1;refine Au (c:=Cs t lim p) B.G h1.le (t:=b+57) Y7 (n:=(l1.takeWhile<|fT q).length) (by rw[uW Y];exact s1) (xY (n:=5*n+40)<|by exact fh (c:=2) T) λsn=>?_;rw[ME l1,<-m3];exact ka.mono (ih _ (r5 d1 V) (l1.dropWhile<|fT q) _ _ om _ _ _ sn Y7 s2 (λd r e=>kZ e) (lS h3<|Int.le_add_one<|nV _) (λx hx=>by obtain rfl:=c0 hx;exact i9 hp<|m7 _ _) Y (by exact fi (k:=3) T<|r5 d1 V)<|by rw[fK,fK,fK,o1,o2,ok];rfl)<|by exact fj (k:=3)<|r5 d1 V
 have U:∀{O u L:Y9}{N:Yj}{S:Z6},mo q Yc l=(if l.take 3=[q,q,q]then 3 else 0)->ka (Ms (Cs t lim p) O u L N (Mf .maxMore (b+58) pos om (ct+1) Ye 0 F::fs) #[⟨b+19,ct+1,Y6 pos,Y8⟩] (Y6 0) (Y6 Yc) S) (pe p<|some<|pos+mo q Yc l) (fs.length+30*n+26):=λe=>by rw[e];exact ka.mono (CV (k:=fs.length+1+20) (lp':=#[⟨b+19,ct+1-1,F,Y8⟩]) Y7 Y7 (xY (n:=20)<|by exact cz T)<|VG B h (by exact cz (k:=11) T)<|by rw[fK,ok];rfl)<|by exact show _+22<=_ from dS (m7 _ _) iu
 refine yG (B.Y 57 iu) (B.X 57 iu) (l:=⟨b+19,ct,F,Y8⟩) Y7 (B.X 21 iu) h3 (xY (n:=50)<|by exact cz T) (λy sn=>?_) λX=>g9 ⟨.inr<|B.X 22 iu,λz=>fD _<|h4 pos z⟩ X;show ka (Ms (Cs t lim p) (b+23) pos pos om (Mf .maxMore (b+58) pos om (ct+1) Ye 0 F::fs) #[⟨b+19,ct+1,Y6 pos,Y8⟩] (Y6 0) Y8 sn) _ _;have rm:∀{f1:fF},yI<|f1::fs:=xY (n:=20) (by exact cz (k:=21) T);refine IE (B.Y 23 iu) (B.X 23 iu) (by rw[show(Cs t lim p).code.getD (b+23+1) 0=6 from B.X 24 iu];decide) rm λsn=>?_;have J:∀{O u L:Y9}{N:Yj}{S:Z6},(∀r,l=q::r->At t lim (pos+1) r->∀hd sn,ka (Ms (Cs t lim p) (b+33) (pos+1) hd om (Mf .nextBranch (b+30) pos om 0 Ye 0 Y8::Mf .maxMore (b+58) pos om (ct+1) Ye 0 F::fs) #[⟨b+19,ct+1,Y6 pos,Y8⟩] (Y6 0) Y8 sn) (pe p<|some<|pos+mo q Yc l)<|fs.length+30*n+33)->((∀r,l≠q::r)->mo q Yc l=if l.take 3=[q,q,q]then 3 else 0)->ka (Ms (Cs t lim p) O u L N (Mf .nextBranch (b+24) pos om 0 Ye 0 Y8::Mf .maxMore (b+58) pos om (ct+1) Ye 0 F::fs) #[⟨b+19,ct+1,Y6 pos,Y8⟩] (Y6 0) (Y6 Yc) S) (pe p<|some<|pos+mo q Yc l) (fs.length+30*n+35):=λhy Z=>BM (c:=Cs t lim p) (t:=b+30) (by show b+24+kf.getD (b+24) 0=_;rw[B.X 24 iu];rfl) rm (λy=>B.U (d:=q) (i:=31) h Y7 Y7 Y7 (λr e h1 sn=>hy r e h1 _ sn) λX sn=>BM (c:=Cs t lim p) (t:=b+43) (by show b+30+kf.getD (b+30) 0=_;rw[B.X 30 iu];rfl) rm (λe=>g9 (show kf.getD (b+43) 0=0 from B.X 43 iu) e) λy=>ka.mono (U<|Z X)<|by simp) λe=>g9 (show kf.getD (b+30) 0=0 from e) (by rw[show kf.getD (b+30) 0=13 from B.X 30 iu];decide);refine B.U (d:=92) (i:=25) h Y7 Y7 Y7 (λl1 e1 h1 sn=>II (c:=Cs t lim p) h1 (B.Y 27 iu) (B.X 27 iu) (λd l2 e2 h2 sn=>CT (c:=Cs t lim p) (t:=b+44) (B.Y 28 iu) (B.X 28 iu) (by show b+28+1+kf.getD (b+29) 0=_;rw[B.X 29 iu];rfl) λsn=>?_) λe2 sn=>?_) λz sn=>?_;.have:=next l2 (pos+1+1) pos sn (Mf .nextBranch (b+24) pos om 0 Ye 0 Y8) (Mf .maxMore (b+58) pos om (ct+1) Ye 0 F) (by rw[<-Z,e1,e2,m4,m4];lia) h2 (by lia) Y7 Y7;rw[e1,e2,Mz B.D,show pos+(mo q Yc l2+2)=pos+1+1+mo q Yc l2 by exact(m5 _ 2 _).symm];exact ka.mono this<|by exact cp
 .refine ka.mono (J (λr e y=>g9 (r4<|e1.symm.trans e).1.symm B.D) λy=>?_) (by exact cp);rw[e1,e2,(by exact bk (gP B.D)<|bj ⟨Y7,Y7⟩ Y7:mo q Yc [92]=0),d8<|λz=>nomatch z]
 .refine ka.mono (J (λr e h2 hd sn=>?_) λa2=>?_)<|by simp
  .subst e;refine Px (c:=Cs t lim p) (B.Y 33 iu) (B.X 33 iu) (B.X 35 iu) (xY (n:=20)<|by exact cz (k:=22) T) λsn=>?_;have cont:∀{O u L:Y9}{N:Yj}{S:Z6},(∀l,r≠q::q::l)->ka (Ms (Cs t lim p) O u L N (Mf .lookNot (b+33) (pos+1) om 0 Ye 0 Y8::Mf .nextBranch (b+30) pos om 0 Ye 0 Y8::Mf .maxMore (b+58) pos om (ct+1) Ye 0 F::fs) #[⟨b+19,ct+1,Y6 pos,Y8⟩] (Y6 0) (Y6 Yc) S) (pe p<|some<|pos+mo q Yc (q::r)) (fs.length+30*n+25):=λe=>by refine Pz (c:=Cs t lim p) (t:=b+41) (by show b+33+1+kf.getD (b+34) 0=_;rw[B.X 34 iu];rfl)<|CT (c:=Cs t lim p) (t:=b+44) (B.Y 41 iu) (B.X 41 iu) (by show b+41+1+kf.getD (b+42) 0=_;rw[B.X 42 iu];rfl) λsn=>?_;rw[GT,d8 λz=>(GX (w:=[q,q]) z).elim e,show pos+(mo q Yc r+1)=pos+1+mo q Yc r by exact lF<|m5 _ 1 _];exact ka.mono (next r (pos+1) _ sn _ _ (by rw[<-Z,m4];exact w6 R_) h2 (by exact w6 R_) Y7 Y7)<|by exact cp
   refine B.U (k:=fs.length+30*n+31) (d:=q) (i:=36) h2 Y7 Y7 Y7 (λl1 e1 h3 sn=>B.U (k:=fs.length+30*n+30) (d:=q) (i:=38) h3 Y7 Y7 Y7 (λl2 e2 y sn=>uI (c:=Cs t lim p) (k:=fs.length+30*n+29) (B.Y 40 iu) (B.X 40 iu) λsn=>ka.mono (k:=fs.length+30*n+26+1+1) (Py<|BM (c:=Cs t lim p) (t:=b+43) (by show b+30+kf.getD (b+30) 0=_;rw[B.X 30 iu];rfl) rm (λe=>g9 (show kf.getD (b+43) 0=0 from B.X 43 iu) e) λy=>U ?_)<|by exact cp (k:=28)) λz sn=>ka.mono (cont λl e=>z l ?_)<|by exact cp) λz sn=>ka.mono (cont λl e=>z (q::l) e) (by exact cp);.rw[e1,e2,GT,d9<|show(q::q::l2).take 2=[q,q]from Y7,d9<|show(q::q::q::l2).take 3=[q,q,q]from Y7]
   .rw[e1]at e;exact(r4 e).2
  .cases l with|nil=>rfl|cons d l=>
    rcases(by obtain h:=hl d l Y7;unfold fT at h;rw[Bool.not_eq_false',fX,v1,v1]at h;exact h)with rfl|rfl;.exact g9 Y7<|a2 l
    .exact g9 Y7<|z l
theorem VI(B:sg b q w):∀(n:Y9)(l:Ln)(pos hd:Y9)(om:Yj)(fs:Yb fF)(ct:Yh)(F:Yd Y9)(sn:Z6),l.length=n->At t lim pos l->(∀d r,l=d::r->fS q d=Yc)->-1<=ct->(∀x,F=Y6 x->x<pos)->lim<1000->fs.length+5*n+50<6000->fs.all xg->ka (Ms (Cs t lim p) (b+45) pos hd om fs #[⟨b+20,ct,F,Y8⟩] (Y6 0) Y8 sn) (pe p<|some<|pos+nq q Yc l) (fs.length+30*n+40):=by intro n;induction n using rM with|ind n ih=>
 intro l pos hd om fs ct F sn Y h hl h3 h4 J L ok;have u:∀{S I N:Y9}{O:Yj}{T:Z6},nq q Yc l=(if l.head?=Y6 q then 1 else 0)->ka (Ms (Cs t lim p) S I N O (Mf .maxMore (b+46) pos om (ct+1) Ye 0 F::fs) #[⟨b+20,ct+1,Y6 pos,Y8⟩] (Y6 0) (Y6 Yc) T) (pe p<|some<|pos+nq q Yc l) (fs.length+30*n+26):=λ{S I N O T}e=>by
  simp only[e];refine ka.mono (k:=fs.length+6+1) (CV (lp':=#[⟨b+20,ct+1-1,F,Y8⟩]) Y7 Y7 (xY (n:=20)<|by exact cz L)<|Au (c:=Cs t lim p) (k:=fs.length+5) B.Q h.le (t:=b+53) Y7 (n:=if l.head?=Y6 q then 1 else 0) (by cases l with|nil=>simp only[h.L,gV];rfl|cons d l=>
    refine bq h.J λa1 X v=>?_;simp only[w7<|by exact lD a1];show(if(t.getD pos 0==q)then 0+1 else 0)=_;simp only[X];by_cases z:d=q;.rw[d9<|by rw[z];exact iI _,d9<|by rw[z];rfl]
    .rw[d8<|by rw[v1];exact z];exact(d8<|λy=>z<|c0 y).symm) (xY (n:=20)<|by simp only[m4];exact cz (k:=21) L) λsn=>?_) (by simp+arith);exact ka.mono (GW B.toPartAt (i:=53) (by rfl) (by rfl)<|by simp only[fK,fK,ok];rfl)<|by simp only[m4,m4];simp
 refine yG (B.gd 45 iu) (B.Z 45 iu) (l:=⟨b+20,ct,F,Y8⟩) Y7 (B.Z 22 iu) h3 (xY (n:=50)<|by exact cz L) (λv sn=>?_) λU=>g9 ⟨.inr<|B.Z 23 iu,λz=>fD _<|h4 pos z⟩ U;show ka (Ms (Cs t lim p) (b+24) pos pos om (Mf .maxMore (b+46) pos om (ct+1) Ye 0 F::fs) #[⟨b+20,ct+1,Y6 pos,Y8⟩] (Y6 0) Y8 sn) _ _;refine B.U (d:=92) (i:=24) h Y7 Y7 Y7 (λl1 e1 h1 sn=>II (c:=Cs t lim p) h1 (B.gd 26 iu) (B.Z 26 iu) (λd l2 e2 h2 sn=>?_) λe2 sn=>ka.mono (u ?_)<|by exact cp) λz sn=>ka.mono (u ?_)<|by simp
 .obtain⟨V,s2⟩:=h2.N (f:=fS q);obtain d1:=Bz (f:=fS q) l2;obtain hlt:l2.length<n:=by simp only[<-Y,e1,e2,m4,m4];lia
  refine Au (c:=Cs t lim p) B.P h2.le (t:=b+45) Y7 (by simp only[uW J];exact V) (xY (n:=5*n+40)<|by simp only[m4];exact fh (c:=1) L) λsn=>?_;simp only[e1,e2,MC B.K,MF l2,show pos+((l2.takeWhile<|fS q).length+nq q Yc (l2.dropWhile<|fS q)+2)=pos+1+1+(l2.takeWhile<|fS q).length+nq q Yc (l2.dropWhile<|fS q)by exact(m5 _ 2<|_+_).symm.trans (m3 (_+2) _ _).symm];exact ka.mono (ih _ (r5 d1 hlt) (l2.dropWhile<|fS q) _ _ om _ _ _ sn Y7 s2 (λd r e=>kZ e) (lS h3<|Int.le_add_one<|nV _) (λx Z=>by obtain rfl:=c0 Z;exact n6<|m7 (_+2) _) J (by simp only[m4,m4];exact fi (k:=2) L<|r5 d1 hlt)<|by simp only[fK,fK,ok];rfl)<|by simp only[m4,m4];exact fj (k:=2)<|r5 d1 hlt
 .rw[e1,e2,(by exact bk (gP B.K)<|bj (.inr ⟨Y7,Y7⟩) Y7:nq q Yc [92]=0)];exact(d8<|λz=>B.K (c0 z).symm).symm
 .clear u hd;cases l with|nil=>rfl|cons d l=>
   rcases VF (hl d l Y7)with rfl|rfl|rfl;.rw[MA];exact(d9 Y7).symm
   .exact g9 Y7<|z l
   .rw[MB B.H];exact(d8<|λz=>B.H (c0 z).symm).symm
theorem VJ(B:tc b q){f1:Yb fF}(h:At t lim pos l)(u:lim<300)(h1:f1.length<10)(ok:f1.all xg):ka (Ms (Cs t lim p) (b+6) pos hd om f1 #[] Y8 Y8 sn) (pe p<|some<|pos+mo q Yc l) 12000:=by refine cg (h.N (f:=fT q)) λI s2=>?_;obtain d1:=Bz (f:=fT q) l;obtain hlen:=h.O;refine Au (c:=Cs t lim p) (k:=11999) B.E h.le (t:=b+19) Y7 (by simp only[uW<|bx u];exact I) (xY (n:=40)<|dc h1) λsn=>CU (c:=Cs t lim p) (k:=11998) (B.Y 19 iu) (B.X 19 iu) (t:=b+57) (by simp only[B.X 20 iu];rfl) (xY (n:=40)<|by simp only[m4];exact dc (k:=41) h1) λsn=>?_;simp only[ME l,<-m3];exact ka.mono (VH B _ (l.dropWhile<|fT q) _ _ om _ (-1) Y8 sn Y7 s2 (λd r e=>kZ e) (nV _) (λx F=>lz F) (bx u) (by simp only[m4,m4];exact fm u h1 d1 hlen)<|by simp only[fK,fK,ok];rfl)<|by simp only[m4,m4];exact fo u h1 d1 hlen
theorem VK(B:sg b q w){f1:Yb fF}(h:At t lim pos l)(u:lim<300)(h1:f1.length<10)(ok:f1.all xg):ka (Ms (Cs t lim p) (b+2) pos hd om f1 #[] Y8 Y8 sn) (pe p<|some<|pos+nq q Yc l) 12000:=by refine cg (h.N (f:=fS q)) λI s2=>?_;obtain d1:=Bz (f:=fS q) l;obtain hlen:=h.O;refine Au (c:=Cs t lim p) (k:=11999) B.M h.le (t:=b+20) Y7 (by simp only[uW<|bx u];exact I) (xY (n:=40)<|dc h1) λsn=>CU (c:=Cs t lim p) (k:=11998) (B.gd 20 iu) (B.Z 20 iu) (t:=b+45) (by simp only[B.Z 21 iu];rfl) (xY (n:=40)<|by simp only[m4];exact dc (k:=41) h1) λsn=>?_;simp only[MF l,<-m3];exact ka.mono (VI B _ (l.dropWhile<|fS q) _ _ om _ (-1) Y8 sn Y7 s2 (λd r e=>kZ e) (nV _) (λx F=>lz F) (bx u) (by simp only[m4,m4];exact fm u h1 d1 hlen)<|by simp only[fK,fK,ok];rfl)<|by simp only[m4,m4];exact fo u h1 d1 hlen
theorem MJ(B:tc b q){S F I:Y9}(B2:sg S q w)(h:At t lim p<|q::l)(u:lim<300){f1:Yb fF}(h1:f1.length<8)(ok:f1.all xg)(V:kf.getD I 0+I=F)(U:F+1=S)(hz:kf.getD F 0≠0):ka (Ms (Cs t lim p) b p hd om (Mf .nextBranch I p om 0 Yc 0 Y8::f1) #[] Y8 Y8 sn) (pe p<|some<|p+ol (q::l)) 12010:=by
 obtain⟨Y,X,h2⟩:=h.J;have two:∀{O J L:Y9}{N:Yj}{T:Z6},(∀r,l≠q::q::r)->ka (Ms (Cs t lim p) O J L N (Mf .nextBranch I p om 0 Yc 0 Y8::f1) #[] Y8 (Y6 Yc) T) (pe p<|some<|p+ol (q::l)) 12003:=λe=>by refine BM (c:=Cs t lim p) (k:=12002) (t:=F) (by rw[v3];exact V) (xY (n:=40)<|by exact dc h1) (λy=>?_) λe=>g9 e hz;erw[U];refine B2.U (k:=12001) (d:=q) (i:=0) h Y7 Y7 Y7 (λr e2 h3 sn=>?_) λz=>g9 Y7<|z l;cases e2;refine zJ5 (show ol (q::l)=nq q Yc l+1 from d8 λz=>(GX (w:=[q,q]) z).elim e)<|zJ5 (show p+(nq q Yc l+1)=p+1+nq q Yc l by exact lF<|m5 _ 1 _) ?_;exact ka.mono (VK B2 h2 u (by refine ?_;exact dc h1)<|by refine zJ5 ok ?_;rfl) iu
 refine B.U (k:=12009) (d:=q) (i:=0) h Y7 Y7 Y7 (λr e0 h2 sn=>B.U (k:=12008) (d:=q) (i:=2) h2 Y7 Y7 Y7 (λl1 e1 h3 sn=>B.U (k:=12007) (d:=q) (i:=4) h3 Y7 Y7 Y7 (λl2 e2 h4 sn=>?_) λz sn=>ka.mono (two λl e=>z l ?_) iu) λz sn=>ka.mono (two λl e=>z (q::l)<|(r4 e0).2.symm.trans e) iu) λz=>g9 Y7<|z l;.cases e0;subst e1 e2;refine zJ5 (show ol (q::q::q::l2)=mo q Yc l2+3 from d9 Y7)<|zJ5 (show p+(mo q Yc l2+3)=p+1+1+1+mo q Yc l2 by exact(m5 _ 3 _).symm) ?_;exact ka.mono (VJ B h4 u (by refine ?_;exact dc h1)<|by refine zJ5 ok ?_;rfl) iu
 .cases e0;rw[e1]at e;exact(r4 e).2
theorem MK{c:Y9}(h:At t lim p<|c::l)(hc:c=34\/c=39)(F:lim<300):zG kf t p lim=Y6 (Y6 (p,p+ol (c::l))):=by
 refine bq h.J λN J h2=>wH (code:=kf) (text:=t) (p:=p) (q:=lim) (r:=Y6<|p+ol (c::l)) N λsn=>ka.mono (k:=13000) (IE (c:=Cs t lim p) (pc:=10) (k:=12999) (by show 10<kf.size;decide) (by rfl) (by show kf.getD 11 0≠0;decide) (by show 0<10000;decide) λsn=>?_) iu;rcases hc with rfl|rfl;.exact ka.mono (MJ (b:=12) ⟨DI jg,⟨by decide,by rfl,by rfl,by rfl,by rfl,DJ λch sn=>Y7⟩,⟨by decide,by rfl,by rfl,by rfl,by rfl,DJ λch sn=>Y7⟩,by decide⟩ (⟨DI jg,⟨by decide,by rfl,by rfl,by rfl,by rfl,DL (b:=93) (DK iu jg) λch sn=>Y7⟩,⟨by decide,by rfl,by rfl,by rfl,by rfl,DL (b:=118) (DK iu jg) λch sn=>Y7⟩,⟨by decide,by rfl,by rfl,by rfl,by rfl,λch sn=>⟨sn,Y7⟩⟩,by decide,by decide⟩:sg 84 34 4) h F iu Y7 (by rfl) Y7 iu) iu
 .have first:∀{pc t':Y9},kf.getD pc 0=16->kf.getD (pc+1) 0=34->pc<kf.size->∀{u k hd:Y9}{sn:Z6},u+kf.getD u 0=t'->kf.getD t' 0≠0->(∀hd sn,ka (Ms (Cs t lim p) (t'+1) p hd Ye [Mf .nextBranch t' p Ye 0 Yc 0 Y8] #[] Y8 Y8 sn) (pe p<|some<|p+ol (39::l)) k)->ka (Ms (Cs t lim p) pc p hd Ye [Mf .nextBranch u p Ye 0 Yc 0 Y8] #[] Y8 Y8 sn) (pe p<|some<|p+ol (39::l)) (k+2):=by intro pc t' S L O u k hd sn U I T;exact CR (c:=Cs t lim p) (k:=k+1) (d:=34) O S L (λw z=>g9 (J.symm.trans z) iu) λw sn=>BM (c:=Cs t lim p) (k:=k) (t:=t') U (by show 0<10000;decide) (λw=>T _ _) λe=>g9 e I
  exact ka.mono (k:=12010+2+2) (first (pc:=12) (t':=83) (by rfl) (by rfl) iu (by rfl) iu λhd sn=>first (pc:=84) (t':=139) (by rfl) (by rfl) iu (by rfl) iu λhd sn=>MJ (b:=140) ⟨DI<|by decide+kernel,⟨by decide,by rfl,by rfl,by rfl,by rfl,DJ λch sn=>Y7⟩,⟨by decide,by rfl,by rfl,by rfl,by rfl,DJ λch sn=>Y7⟩,by decide⟩ (⟨DI<|by decide+kernel,⟨by decide,by rfl,by rfl,by rfl,by rfl,DL (b:=221) (DK iu<|by decide+kernel) λch sn=>Y7⟩,⟨by decide,by rfl,by rfl,by rfl,by rfl,DL (b:=246) (DK iu<|by decide+kernel) λch sn=>Y7⟩,⟨by decide,by rfl,by rfl,by rfl,by rfl,λch sn=>⟨sn,Y7⟩⟩,by decide,by decide⟩:sg 212 39 128) h F iu Y7 (by rfl) Y7 iu) iu
end
def qa(l:Ln):Prop:=∀c,l.getLast?=Y6 c->c=10
theorem qa.F{l r:Ln}(h:qa l)(hs:r<:+l):qa r:=λc hc=>by obtain⟨a,rfl⟩:=hs;exact h c<|by refine zJ5 lP<|zJ5 hc ?_;rfl
theorem qa.I{l:Ln}(h:qa l)(u:l≠[]):10∈l:=by refine pd (h _<|w8 u) ?_;exact pN u
theorem ML{l:Ln}(h:10∈l):∃r,l.dropWhile (·!=10)=10::r:=by induction l with|nil=>cases h|cons d l u=>
  erw[w9];by_cases e:d=10;.subst e;exact⟨l,xb⟩
  .erw[d9<|by simpa using e];exact u<|(Yn.mp h).resolve_left<|gP e
def VL:Ln->Yj|[]=>Yc|d::_=>!Zq d
def vl:Ln->Yj|[]=>Yc|c::r=>if c=10 then Ye else if c=35 then VL r else Yc
def mj(l:Ln):Yj:=vl<|l.dropWhile mf
section
variable{t:Yp Y9}{p q pos hd k:Y9}{om:Yj}{fs:Yb fF}{sn:Z6}{l:Ln}{Q:M->Prop}
abbrev Cj(t:Yp Y9)(q p:Y9):Cv:=⟨mw,t,q,p,0⟩
theorem MM(ch:Y9)(sn:Z6):∃u,YV mw 23 ch sn=.ok (!Zq ch,u):=by obtain e:YV mw 23 ch sn=if aJ ch !=(13%2==1)then .ok (Ye,(sn.add 8).add 68)else .ok (Yc,((sn.add 8).add 68).add 0):=Y7;erw[e];cases aJ ch with|true=>exact⟨_,Y7⟩|false=>exact⟨_,Y7⟩
theorem MN(h:At t q pos l)(O:fs.length<100)(hy:∀r,l=10::r->∀lp sn,ka (Ms (Cj t q p) 37 (pos+1) pos om (Mf .maxTail 35 pos om 0 Yc 0 Y8::Mf .closeLoop 17 pos om 0 Yc 0 Y8::fs) lp Y8 Y8 sn) Q<|k+2)(N:(∀r,l≠10::r)->∀{F u I L J},ka (Ms (Cj t q p) F u I L fs #[] Y8 (Y6 Yc) J) Q k){F u I:Y9}{L:Yj}{J:Z6}:ka (Ms (Cj t q p) F u I L (Mf .maxMore 35 pos om 0 Ye 0 Y8::Mf .closeLoop 17 pos om 0 Yc 0 Y8::fs) #[⟨17,0,Y6 pos,Y8⟩] (Y6 0) (Y6 Yc) J) Q<|k+4:=CV (k:=k+3) (lp':=#[⟨17,-1,Y8,Y8⟩]) Y7 Y7 (fp O)<|B9 (c:=Cj t q p) (k:=k+2) (d:=10) h (by show 35<mw.size;decide) (by rfl) (by rfl) (λr e w sn=>hy r e _ sn) λz sn=>Pu (k:=k+1)<|Pw Y7<|N z
theorem MO(F:fs.length<100)(h1:∀sn,ka (Ms (Cj t q p) 21 pos pos om (Mf .maxMore 35 pos om 0 Ye 0 Y8::Mf .closeLoop 17 pos om 0 Yc 0 Y8::fs) #[⟨17,0,Y6 pos,Y8⟩] (Y6 0) Y8 sn) Q k):ka (Ms (Cj t q p) 17 pos hd om fs #[] Y8 Y8 sn) Q<|k+2:=CU (c:=Cj t q p) (k:=k+1) (by show 17<mw.size;decide) (by rfl) (t:=34) (by rfl) (by show fs.length<10000;exact g8 F iu) λsn=>yG (c:=Cj t q p) (k:=k) (by show 34<mw.size;decide) (by rfl) (l:=⟨17,-1,Y8,Y8⟩) Y7 (by rfl) (nV _) (by show fs.length+1<10000;exact fp F) (λw sn=>h1 sn) λu=>g9 ⟨.inl<|show(-1:Yh)+1<((1:Y9):Yh)by decide,λz=>lz z⟩ u
theorem MP(h:At t q pos l)(h1:vl l=Yc)(O:fs.length<100)(hk:∀{J u F I N},ka (Ms (Cj t q p) J u F I fs #[] Y8 (Y6 Yc) N) Q k):ka (Ms (Cj t q p) 17 pos hd om fs #[] Y8 Y8 sn) Q<|k+8:=by have L:∀{J u F:Y9}{I:Yj}{N:Z6},ka (Ms (Cj t q p) J u F I (Mf .maxMore 35 pos om 0 Ye 0 Y8::Mf .closeLoop 17 pos om 0 Yc 0 Y8::fs) #[⟨17,0,Y6 pos,Y8⟩] (Y6 0) (Y6 Yc) N) Q<|k+4:=MN h O (λr e=>by rw[e]at h1;cases h1) λz=>hk;exact MO (k:=k+6) O λsn=>B9 (c:=Cj t q p) (k:=k+5) (d:=35) h (by show 21<mw.size;decide) (by rfl) (by rfl) (λr e h2 sn=>Fs (c:=Cj t q p) (k:=k+4) (w:=13) (a:=5) h2 (by show 23<mw.size;decide) (by rfl) iu (by rfl) MM (λd r2 e2 hd=>by rw[e,e2]at h1;obtain h1:(!Zq d)=Yc:=h1;rw[h1]at hd;cases hd) λz sn=>L) λz sn=>ka.mono L<|fM _
theorem VM(h:At t q p l)(X:qa l)(L:q<300):∃r,zG mw t p q=Y6 r/\r.isSome=mj l:=by cases F:l with|nil=>subst F;exact⟨Y8,vN iu h.le<|by rw[h.L,gV];decide,Y7⟩|cons d r=>
 rw[<-F];obtain hpq:p<q:=by rw[F]at h;exact h.J.1
 obtain⟨e,V⟩:∃e:Y9,∀sn,ka (Ms (Cj t q p) 5 p p Ye [] #[] Y8 Y8 sn) (pe p<|if mj l then Y6 e else Y8) 10001:=by
  obtain hs:qa<|l.dropWhile mf:=X.F<|eF _;refine⟨p+(l.takeWhile mf).length+match l.dropWhile mf with|35::_::r=>2+(r.takeWhile (·!=10)).length+1|_=>1,λsn=>CY (c:=Cj t q p) (K:=8) (k:=10000) h (⟨by decide,by rfl,by rfl,by rfl,by rfl,Fu λch sn=>Y7⟩:oy mw 5 11 4294967295 mf) Y7 (iE L iu) iu (λpos O I hd om fs sn Q k J hk=>?_)<|λs2 back sn=>?_⟩
  .obtain h2:=At.self (t:=t) (n6 O) h.a;rw[Fq O h.a]at h2;refine MP h2 ((d8 λz=>?_).trans<|d8 λz=>?_) J<|hk ..;.rw[show t.getD pos 0=10 from z]at I;exact g9 I iu
   .rw[show t.getD pos 0=35 from z]at I;exact g9 I iu
  .unfold mj at back|-;generalize p+(l.takeWhile mf).length=pos at s2 back|-;generalize l.dropWhile mf=v at s2 back hs|-;obtain fail:vl v=Yc->∀{pc' pos' hd' om' sn'},ka (Ms (Cj t q p) pc' pos' hd' om' [Mf .giveBack 5 pos Ye (l.takeWhile mf).length Yc 0 Y8] #[] Y8 (Y6 Yc) sn') _ 5000:=λe=>ka.mono (back (k:=1) λj j j j j=>by rw[e];exact CW)<|g8 (i8 (eK 9<|show q+1<=300 from L) 1) iu;by_cases e:vl v=Ye;rotate_left;.exact ka.mono (MP (k:=5000) s2 (Zl.mpr e) (by show 1<100;decide)<|fail<|Bool.eq_false_iff.mpr e) iu
   .clear fail back;rw[d9 e];cases v with|nil=>cases e|cons c r=>
    refine MO (k:=9998) (by show 1<100;decide) λsn=>B9 (c:=Cj t q p) (k:=9997) (d:=35) s2 (by show 21<mw.size;decide) (by rfl) (by rfl) (λr1 e1 h1 sn=>?_) λz sn=>?_;.cases e1;cases r with|nil=>cases e|cons d r=>
     have u:(!Zq d)=Ye:=e;obtain J:qa<|d::r:=hs.F<|u3 _ _;obtain⟨r2,N⟩:=ML<|(J.F<|u3 _ _).I (by rintro rfl;rw[J d Y7]at u;exact g9 u iu);obtain⟨U,S⟩:=h1.J.2.2.N (f:=(·!=10));rw[N]at S;refine Fs (c:=Cj t q p) (k:=9996) (w:=13) (a:=5) h1 (by show 23<mw.size;decide) (by rfl) iu (by rfl) MM (λj j e j j sn=>?_) λz=>by rw[z d r Y7]at u;cases u
     cases e;refine Au (c:=Cj t q p) (k:=9995) (⟨by decide,by rfl,by rfl,by rfl,by rfl,λch sn=>⟨sn,Y7⟩⟩:oy mw 28 5 4294967295 (·!=10)) h1.J.2.2.le Y7 (by erw[uW<|by exact bx L];exact U) (by show 3<10000;decide)<|λsn=>yG (c:=Cj t q p) (k:=9994) (by show 34<mw.size;decide) (by rfl) (l:=⟨17,0,Y6 pos,Y8⟩) Y7 (by rfl) (by show(-1:Yh)<=0;decide) (by show 4<10000;decide) (λhy=>?_) λj sn=>B9 (c:=Cj t q p) (k:=9993) (d:=10) S (by show 35<mw.size;decide) (by rfl) (by rfl) (λj j j sn=>uI (c:=Cj t q p) (k:=9992) (by show 37<mw.size;decide) (by rfl) λsn=>?_) λz=>g9 Y7<|z r2
     .rcases hy.1 with z|z;.exact g9 (show(0:Yh)+1<((1:Y9):Yh)from z) iu
      .exact g9 (show(1:Y9)=C_ from z) iu
     .show ka _ (pe p<|some<|pos+(2+(r.takeWhile (·!=10)).length+1)) 9992;rw[show pos+(2+(r.takeWhile (·!=10)).length+1)=pos+1+1+(r.takeWhile (·!=10)).length+1 by simp+arith];exact ka.mono (Av (c:=Cj t q p)<|by rfl)<|by show 6<=9992;decide
    .refine ka.mono (MN (k:=5000) s2 (by show 1<100;decide) (λr e lp sn=>uI (c:=Cj t q p) (k:=5001) (by show 37<mw.size;decide) (by rfl) λsn=>?_) λT=>?_) iu;.cases e;exact ka.mono (Av (c:=Cj t q p)<|by rfl)<|by show 4<=5001;decide
     .have:vl (c::r)=Yc:=(d8 λy=>T r<|by rw[y]).trans<|d8 λy=>z r (by rw[y]);rw[e]at this;cases this
 exact⟨_,wH (code:=mw) (text:=t) (p:=p) (q:=q) (r:=if mj l then Y6 e else Y8) hpq λsn=>ka.mono (V sn) iu,by cases mj l<;>rfl⟩
end
end Mine.Lake.L09
namespace Mine.Lake.Rp
open PySem
def Mk.F(g:Y9)(G:Ln)(m:Mk):Mk:={a:=m.a,b:=g+m.b,d:=G++m.d.tail.map (g+·),c:=m.c}
def Md.u(g:Y9):Md->Md|.a=>.a|.b q w f=>.b q w<|g+f
section
variable{g:Y9}{G:Ln}
theorem MQ{m:Mk}(h:m.d≠[]):m.u.d≠[]:=by
 unfold Mk.u;by_cases e:m.a=0;.erw[d9 e];exact List.append_ne_nil_of_left_ne_nil h _
 .erw[d8 e];exact h
theorem MR{m:Mk}(h:m.d≠[]):(m.F g G).u=m.u.F g G:=by
 unfold Mk.u Mk.F;by_cases e:m.a=0;.simp only[d9 e];simp only[List.tail_append_of_ne_nil h,eQ,v5];rfl
 .simp only[d8 e];rfl
theorem vy{α:Type}{f:α->α}{p:Prop}[Zf p]{a b u b':Yd α}(h1:p->a=u.map f)(h2:¬p->b=b'.map f):(if p then a else b)=(if p then u else b').map f:=by
 by_cases q:p;.refine zJ5 (d9 q)<|zJ5 (d9 q) ?_;exact h1 q
 .refine zJ5 (d8 q)<|zJ5 (d8 q) ?_;exact h2 q
theorem MS:∀(n:Y9)(md:Md)(l:Ln)(m:Mk),m.d≠[]->kr n (md.u g) l (m.F g G)=(kr n md l m).map (Mk.F g G):=by intro F;induction F with|zero=>exactλy y y y=>Y7|succ n u=>exact fun
   |.a,[],m,h=>Y7|.b q w f,[],m,h=>by show kr n .a [] {m.F g G with c:=if g+m.b=g+f+1 then 2 else 3}=_;erw[(by
      by_cases q:m.b=f+1;·rw[d9 q,d9<|by rw[q];rfl]
      ·rw[d8 q,d8 λ(z:g+m.b=g+f+1)=>q<|nZ (z:g+m.b=g+(f+1))]:(if g+m.b=g+f+1 then 2 else 3)=if m.b=f+1 then 2 else 3)];exact u .a [] {m with c:=if m.b=f+1 then 2 else 3} h|.a,c::l,m,h=>by show kr (n+1) .a (c::l) (m.F g G)=_;refine zJ5 tC<|zJ5 tC ?_;refine vy (λy=>u .a l m h) λy=>vy (λy=>(i6 (kr n .a l)<|MR h).trans<|u .a l m.u<|MQ h) λ_=>vy (λy=>u .a l {m with a:=m.a+1} h) λy=>vy (λy=>u .a l {m with a:=m.a-1} h) λ_=>vy (λy=>vy (λy=>u (.b c 2 m.b) _ m h) λy=>u (.b c 0 m.b) l m h) λ_=>vy (λy=>vy (λy=>u .a _ m h) λy=>Y7) λy=>vy (λy=>?_) λy=>Y7;cases l with|nil=>rfl|cons d l=>
      show kr n .a l _=(kr n .a l _).map _;by_cases q:d=10;·refine zJ5 (d9 q)<|zJ5 (d9 q) ?_;exact u .a l {m with b:=m.b+1,c:=if l=[]then 1 else m.c} h
      ·refine zJ5 (d8 q)<|zJ5 (d8 q) ?_;exact u .a l m h|.b q w f,c::l,m,h=>by show kr (n+1) (.b q w<|g+f) (c::l) (m.F g G)=_;refine ?_;refine vy (λy=>u (.b q w f) l m h) λy=>vy (λy=>u .a _ m h) λ_=>vy (λy=>vy (λy=>(i6 (kr n .a l)<|MR h).trans<|u .a l m.u<|MQ h) λy=>u (.b q w f) l {m with b:=m.b+1} h) λ_=>vy (λy=>?_) λy=>u (.b q w f) l m h;cases l with|nil=>rfl|cons d l=>
      show kr n (.b q w<|g+f) l _=(kr n (.b q w f) l _).map _;by_cases z:d=10;·refine zJ5 (d9 z)<|zJ5 (d9 z) ?_;exact u (.b q w f) l {m with b:=m.b+1} h
      ·refine zJ5 (d8 z)<|zJ5 (d8 z) ?_;exact u (.b q w f) l m h
theorem kP:∀q w f,Md.a=.b q w f->q≠10:=λz z z h=>by cases h
theorem xF{c:Y9}{l:Ln}(h:c≠10):(c::l).count 10=l.count 10:=nH<|by simpa using h
theorem GY:∀l:Ln,(l.dropWhile (·≠10)).count 10=l.count 10:=by intro F;induction F with|nil=>exact  Y7|cons c l u=>
  rw[w9];by_cases h:c=10;.exact zJ5 (d8<|by simpa using h) Y7
  .exact zJ5 (d9<|by simpa using h)<|zJ5 u<|zJ5 (xF h) Y7
theorem DM{c k:Y9}{l:Ln}(h:l.take k=YG k c)(hc:c≠10):(l.drop k).count 10=l.count 10:=by conv=>rhs;rw[<-eW k l,hN,h,List.count_replicate,d8<|by simpa using hc,fA]
theorem MT{n:Y9}{m M:Mk}(h:kr n .a [] m=Y6 M):M.d=m.d:=by cases n with|zero=>cases h|succ n=>obtain rfl:=c0 h;rfl
def DN(M:Mk)(x n:Y9)(l:Ln)(m:Mk):Prop:=∃k B m',B.length+n<=k+l.length/\10::B<:+l/\m'.a=0/\m'.c=m.c/\m'.b=x/\(∃G',m'.d=G'++[x]/\m.d<+:G')/\m.b+l.count 10=x+B.count 10/\kr k .a B m'=Y6 M
theorem VN{M:Mk}{x:Y9}(U:x∈M.d):∀(n:Y9)(md:Md)(l:Ln)(m:Mk),(∀q w f,md=.b q w f->q≠10)->kr n md l m=Y6 M->x∉m.d->DN M x n l m:=by intro zz;induction zz with|zero=>intro _ _ _ _ h _;cases h|succ n N=>exact fun
   |.a,[],m,_,h,hm=>by obtain rfl:=c0 h;exact g9 U hm|.b q w f,[],m,hq,h,hm=>g9 (MT h▸U) hm|.a,c::l,m,hq,h,hm=>by
    have go:∀{md1 l1 m1},(∀q w f,md1=.b q w f->q≠10)->l1<:+l->m1.d=m.d->m1.c=m.c->m1.b+l1.count 10=m.b+(c::l).count 10->kr n md1 l1 m1=Y6 M->DN M x (n+1) (c::l) m:=λJ h1 h2 hc h3 h4=>fx (N _ _ _ J h4<|h2▸hm) λk B m' a b c F d e f g=>⟨k,B,m',m9<|g8 a<|i8 h1.length_le k,(b.trans h1).trans<|u3 _ _,c,F.trans hc,d,h2▸e,h3.symm.trans f,g⟩;have nl:c=10->kr n .a l m.u=Y6 M->DN M x (n+1) (c::l) m:=λhc h=>by
      have u:(c::l).count 10=l.count 10+1:=by erw[hc];exact iB
      by_cases e:m.a=0
      · have hg:m.u.d=m.d++[m.b+1]:=d9 e;by_cases q:x=m.b+1;·exact⟨n,l,m.u,m9<|eJ<|v3 _ _,hc▸dU _,e,Y7,q.symm,⟨m.d,by rw[hg,q],gF _⟩,by rw[u,q];exact(m5 _ 1 _).symm,h⟩
        ·refine bC λO=>?_;obtain⟨k,B,m',a,b,c',F,d,⟨G',e1,e2⟩,f,g⟩:=N .a l m.u kP h (by erw[hg];exactλz=>(Yz.mp z).elim hm λz=>q<|List.mem_singleton.mp z);refine O ?_;exact⟨k,B,m',m9 a,b.trans<|u3 _ _,c',F,d,⟨G',e1,(oS _ _).trans<|hg▸e2⟩,by erw[u];exact(m5 m.b 1 _).symm.trans f,g⟩
      ·exact go (m1:=m.u) kP (dU l) (d8 e) Y7 (by erw[u];exact m5 m.b 1 _) h
    by_cases h1:c=120;·obtain h:=bi h1 h;exact go kP (dU l) Y7 Y7 (by rw[xF<|by rw[h1];decide]) h
    replace h:=bc h1 h;by_cases h2:c=10;·obtain h:=bi h2 h;exact nl h2 h
    replace h:=bc h2 h;by_cases h3:c=40;·obtain h:=bi h3 h;exact go (m1:={m with a:=m.a+1}) kP (dU l) Y7 Y7 (by rw[xF h2]) h
    replace h:=bc h3 h;by_cases h4:c=41;·obtain h:=bi h4 h;exact go (m1:={m with a:=m.a-1}) kP (dU l) Y7 Y7 (by rw[xF h2]) h
    replace h:=bc h4 h;by_cases h5:c=34\/c=39
    · replace h:=bi h5 h;by_cases V:(c::l).take 3=[c,c,c];·replace h:=bi V h;exact go (λq w f e=>by injection e with e;subst e;exact h2) (dQ 2 l) Y7 Y7 (by rw[xF h2,DM (k:=2) (r4 V).2 h2]) h
      ·replace h:=bc V h;exact go (λq w f e=>by injection e with e;subst e;exact h2) (dU l) Y7 Y7 (by rw[xF h2]) h
    replace h:=bc h5 h;by_cases T:c=35
    · replace h:=bi T h;by_cases Z:10∈l;·obtain h:=bi Z h;exact go kP (eF _) Y7 Y7 (by rw[xF h2,GY]) h
      ·replace h:=bc Z h;cases h
    replace h:=bc T h;by_cases I:c=92;·replace h:=bi I h;cases l with|nil=>cases h|cons d l=>
        obtain h:kr n .a l (if d=10 then{m with b:=m.b+1,c:=if l=[]then 1 else m.c}else m)=Y6 M:=h;by_cases e:d=10
        · rw[d9 e]at h;by_cases hl:l=[];·clear e I T h5 h4 h3 h2 h1 nl go;subst hl;exact g9 (MT h▸U) hm
          rw[d8 hl]at h;exact go (m1:={m with b:=m.b+1,c:=m.c}) kP (u3 _ _) Y7 Y7 (by refine zJ5 (xF h2)<|zJ5 e<|zJ5 iB ?_;exact m5 m.b 1 _) h
        ·rw[d8 e]at h;exact go kP (u3 _ _) Y7 Y7 (by rw[xF h2,xF e]) h
    replace h:=bc I h;cases h|.b q w f,c::l,m,hq,h,hm=>by
    obtain q10:q≠10:=hq q w f Y7;have go:∀{md1 l1 m1},(∀q w f,md1=.b q w f->q≠10)->l1<:+l->m1.d=m.d->m1.c=m.c->m1.b+l1.count 10=m.b+(c::l).count 10->kr n md1 l1 m1=Y6 M->DN M x (n+1) (c::l) m:=λJ h1 h2 hc h3 h4=>fx (N _ _ _ J h4<|h2▸hm) λk B m' a b c F d e f g=>⟨k,B,m',m9<|g8 a<|i8 h1.length_le k,(b.trans h1).trans<|u3 _ _,c,F.trans hc,d,h2▸e,h3.symm.trans f,g⟩;have L:∀S X Y,Md.b q w f=.b S X Y->S≠10:=λS X Y e=>by injection e with e;subst e;exact q10
    by_cases h1:c=120;·obtain h:=bi h1 h;exact go L (dU l) Y7 Y7 (by rw[xF<|by rw[h1];decide]) h
    replace h:=bc h1 h;by_cases h2:(c::l).take (w+1)=lh q w;·replace h:=bi h2 h;have hh:=r4<|h2;exact go kP (dQ w l) Y7 Y7 (by rw[xF<|hh.1▸q10,DM hh.2 q10]) h
    replace h:=bc h2 h;by_cases h3:c=10
    · obtain h:=bi h3 h;have u:(c::l).count 10=l.count 10+1:=by erw[h3];exact iB
      by_cases J:w=0
      · replace h:=bi J h;by_cases e:m.a=0
        · have hg:m.u.d=m.d++[m.b+1]:=d9 e;by_cases z:x=m.b+1;·exact⟨n,l,m.u,m9<|eJ<|v3 _ _,h3▸dU _,e,Y7,z.symm,⟨m.d,by rw[hg,z],gF _⟩,by rw[u,z];exact(m5 _ 1 _).symm,h⟩
          ·refine bC λO=>?_;obtain⟨k,B,m',a,b,c',F,d,⟨G',e1,e2⟩,f,g⟩:=N .a l m.u kP h (by erw[hg];exactλy=>(Yz.mp y).elim hm λy=>z<|List.mem_singleton.mp y);refine O ?_;exact⟨k,B,m',m9 a,b.trans<|u3 _ _,c',F,d,⟨G',e1,(oS _ _).trans<|hg▸e2⟩,by erw[u];exact(m5 m.b 1 _).symm.trans f,g⟩
        ·exact go (m1:=m.u) kP (dU l) (d8 e) Y7 (by erw[u];exact m5 m.b 1 _) h
      ·obtain h:=bc J h;exact go (m1:={m with b:=m.b+1}) L (dU l) Y7 Y7 (by erw[u];exact m5 m.b 1 _) h
    replace h:=bc h3 h;by_cases I:c=92;·replace h:=bi I h;clear I h2;cases l with|nil=>cases h|cons d l=>
        have h:kr n (.b q w f) l (if d=10 then{m with b:=m.b+1}else m)=Y6 M:=h;by_cases e:d=10;·rw[d9 e]at h;exact go (m1:={m with b:=m.b+1}) L (u3 _ _) Y7 Y7 (by refine zJ5 (xF h3)<|zJ5 e<|zJ5 iB ?_;exact m5 m.b 1 _) h
        ·rw[d8 e]at h;exact go L (u3 _ _) Y7 Y7 (by rw[xF h3,xF e]) h
    obtain h:=bc I h;exact go L (dU l) Y7 Y7 (by rw[xF h3]) h
end
def vm:Mk:=⟨0,0,[0],0⟩
theorem VO{n:Y9}{l:Ln}{M:Mk}{g:Y9}(h:kr n .a l vm=Y6 M)(hg:g∈M.d):∃k B M0 G',B.length+n<=k+l.length/\(10::B<:+l\/g=0/\B=l)/\l.count 10=g+B.count 10/\kr k .a B vm=Y6 M0/\M0.a=M.a/\M0.c=M.c/\M.b=g+M0.b/\M.d=G'++M0.d.map (g+·):=by
 by_cases I:g=0;.subst I;refine⟨n,l,M,[],eJ<|v3 _ _,.inr ⟨Y7,Y7⟩,(fA _).symm,h,Y7,Y7,(fA _).symm,?_⟩;rw[show((0+·):Y9->Y9)=id from funext λx=>fA x,nW];rfl
 .refine bC λF=>?_;obtain⟨k,B,m',hk,L,h1,h2,h3,⟨G',e1,_⟩,hc,hs⟩:=VN hg n .a l vm kP h<|λq=>I<|List.mem_singleton.mp q;obtain e:m'=vm.F g (G'++[g]):=by refine bC λF=>?_;obtain⟨a,b,c,d⟩:=m';refine F ?_;simp only at h1 h2 h3 e1;subst h1 h2 h3 e1;unfold Mk.F vm;simp
  refine F ?_;rw[e]at hs;replace hs:=MS k .a B vm (by intro q;exact Ab q)▸hs;refine jk hs λM0 u J=>?_;subst J;refine⟨k,B,M0,G',hk,.inl L,(fA _).symm.trans hc,u,Y7,Y7,Y7,?_⟩;show G'++[g]++M0.d.tail.map (g+·)=G'++M0.d.map (g+·);rw[v5];conv=>rhs;rw[(by obtain e:=MS (g:=0) (G:=[0]) k .a B vm (by intro q;cases q);rw[u]at e;have e2:kr k .a B vm=Y6 (M0.F 0 [0]):=e;rw[u]at e2;obtain e3:M0.d=[0]++M0.d.tail.map (0+·):=i6 Mk.d<|c0 e2;rw[show M0.d.tail.map (0+·)=M0.d.tail from by rw[show((0+·):Y9->Y9)=id from funext λx=>fA x,nW]]at e3;exact e3:M0.d=0::M0.d.tail)]
  rfl
theorem VP{M M0:Mk}{g c:Y9}{G' R:Ln}(h1:M0.a=M.a)(h2:M0.c=M.c)(h3:M.b=g+M0.b)(h4:M.d=G'++M0.d.map (g+·))(F:M0.d≠[])(h:sm M=Y6 (R,c)):∃R0,sm M0=Y6 (R0,c)/\R=G'++R0.map (g+·):=by
 have u:(M.d.getLast?=Y6 M.b)=(M0.d.getLast?=Y6 M0.b):=by obtain⟨y,hy⟩:∃y,M0.d.getLast?=Y6 y:=⟨_,w8 F⟩;refine zJ5 h4<|zJ5 h3<|zJ5 lP<|zJ5 iA<|zJ5 hy ?_;exact propext ⟨λq=>i6 Y6<|nZ<|c0 q,λq=>i6 (λz=>Y6<|g+z)<|c0 q⟩
 unfold sm at h|-;simp only[u,<-h1,<-h2]at h;simp only;by_cases q:Yk ((if M0.c≠2/\M0.c≠3/\0<M0.a then 4 else M0.c)=0)=Yk (M0.d.getLast?=Y6 M0.b)
 .replace h:=d9 q▸h;erw[d9 q];cases h;refine⟨_,Y7,?_⟩;by_cases z:M0.d.getLast?=Y6 M0.b;.refine zJ5 (d9 z)<|zJ5 (d9 z) ?_;exact h4
  .rw[d8 z,d8 z,h4,h3,eQ,v5];rfl
 .replace h:=d8 q▸h;cases h
end Mine.Lake.Rp
namespace Mine.Lake.L09
open PySem Mine.Lake Mine.Lake.Rp Mine.Lake.Re
def la:Ln->Y9->Ln:=lr (λq=>[]) λc q f n=>match n with|0=>[]|r+1=>c::f (if c=10 then r else r+1)
def kd:Ln->Y9->Ln:=lr (λq=>[]) λc l f n=>match n with|0=>c::l|r+1=>f<|if c=10 then r else r+1
def nt(A:Ln):Prop:=A=[]\/qn A
theorem GZ:∀l:Ln,la l 0=[]|[]=>Y7|_::_=>Y7
theorem xC:∀l:Ln,kd l 0=l|[]=>Y7|_::_=>Y7
theorem qU:∀(l:Ln)(r:Y9),la l r++kd l r=l|[],_=>Y7|_::_,0=>Y7|c::l,r+1=>i6 (c::·)<|qU l _
theorem nt.I{c:Y9}{A:Ln}(h:nt A)(hc:A=[]->c=10):nt<|c::A:=by
 rcases h with rfl|⟨q,rfl⟩;.erw[hc Y7];exact .inr ⟨[],Y7⟩
 .exact .inr ⟨c::q,Y7⟩
theorem nt.J{c:Y9}{A:Ln}(h:nt<|c::A):nt A/\(A=[]->c=10):=by obtain⟨q,e⟩:=h.resolve_left<|λq=>Ab q;clear h;cases q with|nil=>injection e with e h_;subst e h_;exact⟨.inl Y7,λw=>Y7⟩|cons d q=>injection e with e h_;subst e h_;exact⟨.inr ⟨q,Y7⟩,λz=>g9 z<|by simp⟩
theorem nt.L{A B:Ln}(F:nt A)(u:nt B):nt<|A++B:=by
 rcases u with rfl|⟨q,rfl⟩;.rw[eY];exact F
 .exact .inr ⟨A++q,by rw[v5]⟩
theorem yv(l:Ln):(10::l).count 10=l.count 10+1:=iB
theorem vz{c:Y9}(h:c≠10)(l:Ln):(c::l).count 10=l.count 10:=nH<|by simpa using h
theorem xR:∀(l:Ln)(r:Y9),r<=l.count 10->nt (la l r)/\(la l r).count 10=r
 |[],r,h=>⟨.inl Y7,(Nat.le_zero.mp h).symm⟩|_::_,0,_=>⟨.inl Y7,Y7⟩|c::l,r+1,h=>by
  by_cases hc:c=10;.subst hc;rw[yv]at h;obtain⟨h1,h2⟩:=xR l r<|u7 h;show nt (10::la l r)/\(10::la l r).count 10=r+1;exact⟨h1.I λq=>Y7,by rw[yv,h2]⟩
  .rw[vz hc]at h;obtain⟨h1,h2⟩:=xR l (r+1) h;obtain e:la (c::l) (r+1)=c::la l (r+1):=i6 (λz=>c::la l z)<|d8 hc;rw[e];refine⟨h1.I λz=>?_,by rw[vz hc,h2]⟩;rw[z]at h2;cases h2
theorem jJ:∀(l:Ln)(r s:Y9),kd l (r+s)=kd (kd l r) s
 |[],_,_=>Y7|_::_,0,s=>by rw[fA];rfl|c::l,r+1,s=>by
  by_cases hc:c=10;.subst hc;rw[m5];exact jJ l r s
  .obtain e1:=i6 (kd l)<|d8 hc;refine zJ5 e1<|zJ5 (by rw[m5];exact i6 (kd l)<|d8 hc:kd (c::l) (r+1+s)=kd l (r+1+s)) ?_;exact jJ l (r+1) s
theorem H3:∀(l:Ln)(r s:Y9),la l (r+s)=la l r++la (kd l r) s
 |[],_,_=>Y7|_::_,0,s=>by rw[fA];rfl|c::l,r+1,s=>by
  by_cases hc:c=10;.subst hc;rw[m5];exact i6 (10::·)<|H3 l r s
  .obtain e1:la (c::l) (r+1)=c::la l (r+1):=i6 (λz=>c::la l z)<|d8 hc;obtain e2:la (c::l) (r+1+s)=c::la l (r+1+s):=by rw[m5];exact i6 (λz=>c::la l z)<|d8 hc
   obtain e3:=i6 (kd l)<|d8 hc;refine zJ5 e1<|zJ5 e2<|zJ5 e3<|zJ5 (H3 l (r+1) s) ?_;rfl
theorem VQ:∀(A B:Ln),nt A->kd (A++B) (A.count 10)=B:=by intro F;induction F with|nil=>exactλB w=>xC B|cons c A u=>
  intro B h;obtain⟨h1,h2⟩:=h.J;by_cases hc:c=10;.subst hc;rw[yv];exact u B h1
  .rw[vz hc];obtain⟨k,hk⟩:∃k,A.count 10=k+1:=by obtain⟨q,rfl⟩:=h1.resolve_left λz=>hc<|h2 z;exact⟨q.count 10,by rw[hN];rfl⟩
   obtain ih:=u B h1;rw[hk]at ih|-;exact(i6 (kd<|A++B)<|d8 hc).trans ih
theorem zW{l:Ln}{r:Y9}(h:r<=l.count 10):(kd l r).count 10+r=l.count 10:=by have:=i6 (List.count 10)<|qU l r;rw[hN,(xR l r h).2,v3]at this;exact this
theorem MU{f:Y9->Y9}(u:∀c,f c=10↔c=10):∀(l:Ln)(r:Y9),kd (l.map f) r=(kd l r).map f
 |[],_=>Y7|_::_,0=>Y7|c::l,r+1=>by show kd (l.map f) (if f c=10 then r else r+1)=(kd l<|if c=10 then r else r+1).map f;erw[(by
   by_cases h:c=10;.rw[d9 h,d9<|(u c).mpr h]
   .rw[d8 h,d8 λz=>h<|(u c).mp z]:(if f c=10 then r else r+1)=if c=10 then r else r+1)];exact MU u l _
theorem jO(c:Y9):ko c=10↔c=10:=by
 constructor
 .intro h;by_cases h1:c=40\/c=123\/c=91;.replace h:=bi h1 h;cases h
  .obtain h:=bc h1 h;by_cases h2:c=41\/c=125\/c=93;.replace h:=bi h2 h;cases h
   .replace h:=bc h2 h;by_cases h3:c=34\/c=39\/c=92\/c=10\/c=35;.obtain h:=bi h3 h;exact h
    .replace h:=bc h3 h;cases h
 .rintro rfl;rfl
theorem VS(l:Ln):(l.map ko).count 10=l.count 10:=by induction l with|nil=>rfl|cons c l u=>
  rw[gH];by_cases h:c=10;.subst h;rw[show ko 10=10 from Y7,yv,yv,u]
  .rw[vz h,vz<|λz=>h<|(jO c).mp z,u]
def oe(l:Ln)(r:Y9):Y9:=(la l r).length
theorem DO(l:Ln)(r s:Y9):oe l (r+s)=oe l r+oe (kd l r) s:=by unfold oe;rw[H3,j9]
theorem MV(l:Ln)(r:Y9):l.take (oe l r)=la l r:=by have:=@oT Y9 (la l r)<|kd l r;rw[qU]at this;exact this
theorem MW(l:Ln)(r:Y9):oe l r<=l.length:=by have:=i6 Ys<|qU l r;rw[j9]at this;exact lR this
theorem wa{l:Ln}{r:Y9}(h:r<=l.count 10)(u:0<r):0<oe l r:=by refine YT.mpr λz=>?_;have:=(xR l r h).2;rw[z]at this;exact g9 this<|v9 u
theorem qO(l:Ln)(r:Y9):kd l r<:+l:=⟨_,qU l r⟩
def S8(l:Ln):Prop:=∀c∈l,c∈[120,10,40,41,34,39,35,92]
theorem qa.L{A B:Ln}(h:qa<|A++B)(h1:10∉A)(h2:A≠[]):B≠[]:=by rintro rfl;rw[eY]at h;exact h1<|by have:=h _<|w8 h2;refine pd this ?_;exact pN h2
theorem qa.J{c:Y9}{l:Ln}(h:qa<|c::l)(hc:c≠10):l≠[]:=qa.L (A:=[c]) h (λz=>hc (Yw.mp z).symm)<|mK _ _
structure sh(m:Mk):Prop where
 c:m.d≠[]b:∀g∈m.d,g<=m.b
 a:m.d.Pairwise (·<·)
def AR(m:Mk):Prop:=(if m.c≠2/\m.c≠3/\0<m.a then 4 else m.c)=0↔m.d.getLast?=Y6 m.b
def xz:Md->Mk->Prop|.a,m=>AR m/\m.c<=3|.b _ _ _,m=>m.d.getLast?≠Y6 m.b
def DP:Md->Prop|.a=>True|.b q w _=>(q=34\/q=39)/\(w=0\/w=2)
structure zy(m:Mk)(l:Ln)(M:Mk):Prop where
 c:M.b=m.b+l.count 10
 b:m.d<+:M.d
 a:sh M
 d:AR M
 e:M.c<=3
section
variable{m:Mk}
set_option tactic.hygienic true in theorem sh.u(h:sh m){m':Mk}(h1:m'.d=m.d)(h2:m.b<=m'.b):sh m':=⟨h1▸h.c,λg hg=>g8 (h.b g<|h1▸hg) h2,h1▸h.a⟩
theorem sh.F(h:sh m){m':Mk}(h1:m'.d=m.d)(h2:m'.b=m.b+1):m'.d.getLast?≠Y6 m'.b:=λz=>by rw[h1,h2]at z;exact g9 (h.b _<|gY z)<|Nat.not_succ_le_self _
set_option tactic.hygienic true in theorem sh.I(h:sh m):sh m.u:=by
 by_cases e:m.a=0
 .obtain hg:m.u.d=m.d++[m.b+1]:=d9 e;refine⟨by rw[hg];simp,λg hm=>?_,?_⟩
  .rw[hg]at hm;rcases Yz.mp hm with hm|hm;.exact n7<|h.b g hm
   .rw[Yw.mp hm];exact j7 _
  .rw[hg];exact Z3.mpr ⟨h.a,pO _ _,λa F b u=>by rw[Yw.mp u];exact w6<|h.b a F⟩
 .exact h.u (d8 e)<|fM _
theorem MX(h:sh m)(hc:m.c=0):AR m.u:=by
 unfold AR;by_cases e:m.a=0;.obtain hg:m.u.d=m.d++[m.b+1]:=d9 e;refine zJ5 (show m.u.c=0 from hc)<|zJ5 (show m.u.a=0 from e)<|zJ5 hg<|zJ5 gN ?_;exact⟨λq=>Y7,λq=>Y7⟩
 .refine zJ5 (show m.u.c=0 from hc)<|zJ5 (d9 ⟨by decide,by decide,w5 e⟩) ?_;exact⟨λz=>(by cases z),λz=>g9 z<|h.F (d8 e) Y7⟩
theorem MY{m':Mk}(hc:m'.c≠0)(h:m'.d.getLast?≠Y6 m'.b):AR m':=by
 refine⟨λz=>?_,λz=>g9 z h⟩;exfalso;by_cases q:m'.c≠2/\m'.c≠3/\0<m'.a;.obtain z:=bi q z;exact HO z
 .obtain z:=bc q z;exact hc z
end
set_option tactic.hygienic true in theorem MZ:∀(n:Nat)(md:Md)(l:Ln)(m:Mk),l.length<=n->DP md->qa l->S8 l->sh m->(l≠[]->m.c=0)->(l=[]->xz md m)->∃M,kg md l m=some M/\zy m l M:=by
 obtain base:∀(md:Md)(m:Mk),sh m->xz md m->∃M,kg md [] m=Y6 M/\zy m [] M:=λmd m u L=>by cases md with|a=>exact⟨m,Y7,Y7,gF _,u,L.1,L.2⟩|b q w f=>
   refine⟨{m with c:=if m.b=f+1 then 2 else 3},Y7,Y7,gF _,u.u Y7<|j7 _,MY ?_ L,?_⟩
   .show(if m.b=f+1 then 2 else 3)≠0;by_cases z:m.b=f+1;.erw[d9 z];decide
    .erw[d8 z];decide
   .show(if m.b=f+1 then 2 else 3)<=3;by_cases z:m.b=f+1;.erw[d9 z];decide
    .erw[d8 z];decide
 intro n;induction n with
 |zero=>intro md l m h _ _ _ u _ L;cases l with|nil=>exact base md m u<|L Y7|cons=>exact g9 h<|dZ _
 |succ n iz=>
  intro md l m hl J I h8 u hc L;rcases l with _|⟨c,l⟩;.exact base md m u<|L Y7
  clear L base;replace hl:=u7 hl;replace hc:=hc<|mK _ _;have go:∀{md':Md}{l':Ln}{m':Mk},l'<:+l->DP md'->sh m'->(l'≠[]->m'.c=0)->(l'=[]->xz md' m')->m.d<+:m'.d->m'.b+l'.count 10=m.b+(c::l).count 10->∃M,kg md' l' m'=Y6 M/\zy m (c::l) M:=λhs h1 h2 h3 h4 h5 S=>by obtain⟨M,e,a,b,c',d,d'⟩:=iz _ _ _ (g8 hs.length_le hl) h1 (I.F<|hs.trans<|u3 _ _) (λz hz=>h8 z<|.tail _<|hs.mem hz) h2 h3 h4;exact⟨M,e,a.trans S,h5.trans b,c',d,d'⟩
  have same:∀{md':Md}{l':Ln}{m':Mk},l'<:+l->l'≠[]->DP md'->m'.d=m.d->m'.b=m.b->m'.c=m.c->l'.count 10=(c::l).count 10->∃M,kg md' l' m'=Y6 M/\zy m (c::l) M:=λhs X h1 h2 h3 h4 h5=>go hs h1 (u.u h2<|eJ h3.symm) (λy=>h4.trans hc) (λz=>g9 z X) (h2▸gF _) (by exact zJ5 h3<|zJ5 h5 Y7);have line:c=10->∃M,kg .a l m.u=Y6 M/\zy m (c::l) M:=λe=>go (dU l) YY u.I (λy=>hc) (λy=>⟨MX u hc,g8 (eJ hc)<|v8 _⟩) (by
     by_cases e:m.a=0;.rw[show m.u.d=m.d++[m.b+1]from d9 e];exact oS _ _
     .rw[show m.u.d=m.d from d8 e];exact gF _) (by rw[e,yv];exact m5 _ _ _);have bs:∀(md':Md),c=92->DP md'->(∀d l',l=d::l'->d=10->∃M,kg md' l' (match md' with|.a=>{m with b:=m.b+1,c:=if l'=[]then 1 else m.c}|.b _ _ _=>{m with b:=m.b+1})=Y6 M/\zy m (c::l) M)/\∀d l',l=d::l'->d≠10->∃M,kg md' l' m=Y6 M/\zy m (c::l) M:=λmd' e h1=>by
   subst e;refine⟨λd l' e1 e2=>?_,λd l' e1 e2=>?_⟩
   .subst e1 e2;have U:m.b+1+l'.count 10=m.b+(92::10::l').count 10:=by rw[vz iu,yv];exact m5 _ _ _
    cases md' with|a=>
     refine go (u3 _ _) h1 (u.u Y7<|fM _) (λz=>(d8 z).trans hc) (λz=>⟨MY ?_<|u.F Y7 Y7,?_⟩) (gF _) U;.show(if l'=[]then 1 else m.c)≠0;erw[d9 z];decide
     .show(if l'=[]then 1 else m.c)<=3;erw[d9 z];decide|b q w f=>exact go (m':={m with b:=m.b+1}) (u3 _ _) h1 (u.u Y7<|fM _) (λz=>hc) (λz=>u.F Y7 Y7) (gF _) U
   .subst e1;exact same (u3 _ _) (qa.L (A:=[92,d]) I (by simp;exactλz=>e2 z.symm)<|by simp) h1 Y7 Y7 Y7<|by rw[vz iu,vz e2]
  obtain h8c:=h8 c<|.head _;cases md with
  |a=>
   erw[tD];by_cases h1:c=120;.erw[d9 h1];exact same (dU l) (I.J<|by erw[h1];decide) YY Y7 Y7 Y7 (vz (by erw[h1];decide) l).symm
   erw[d8 h1];by_cases h2:c=10;.erw[d9 h2];exact line h2
   erw[d8 h2];have F:=I.J h2;have N:=(vz h2 l).symm;by_cases h3:c=40;.erw[d9 h3];exact same (dU l) F YY Y7 Y7 Y7 N
   erw[d8 h3];by_cases h4:c=41;.erw[d9 h4];exact same (dU l) F YY Y7 Y7 Y7 N
   erw[d8 h4];by_cases h5:c=34\/c=39
   .erw[d9 h5];by_cases S:(c::l).take 3=[c,c,c];.erw[d9 S];refine same (md':=.b c 2 m.b) (dQ 2 l) (qa.L (A:=[c,c,c]) (B:=l.drop 2) ?_ (by simp;exactλz=>h2 z.symm)<|by simp) ⟨h5,.inr Y7⟩ Y7 Y7 Y7<|(DM (k:=2) (r4 S).2 h2).trans N;have:=eW 3<|c::l;rw[S]at this;erw[show[c,c,c]++l.drop 2=c::l from this];exact I
    .erw[d8 S];exact same (md':=.b c 0 m.b) (dU l) F ⟨h5,.inl Y7⟩ Y7 Y7 Y7 N
   erw[d8 h5];by_cases Z:c=35;.erw[d9 Z];obtain hm:=(I.F<|u3 c l).I F;erw[d9 hm];refine same (eF _) (λz=>?_) YY Y7 Y7 Y7<|(GY l).trans N;have:=GY l;rw[z]at this;exact g9 (YZ.mpr hm)<|by refine pd this ?_;exact fD 0
   erw[d8 Z];by_cases O:c=92
   .erw[d9 O];refine cq (gK F) λd r V=>?_;subst V;obtain⟨Y,b2⟩:=bs .a O YY;show∃M,kg .a r (if d=10 then _ else m)=Y6 M/\_;by_cases z:d=10;.erw[d9 z];exact Y d r Y7 z
    .erw[d8 z];exact b2 d r Y7 z
   .exfalso;simp only[rW,pP,or_false]at h8c;rcases h8c with z|z|z|z|z|z|z|z;.exact h1 z
    .exact h2 z
    .exact h3 z
    .exact h4 z
    .exact h5<|.inl z
    .exact h5<|.inr z
    .exact Z z
    .exact O z|b q w f=>
   erw[wv];have T:q≠10:=by rcases J.1 with z|z<;>(erw[z];decide)
   by_cases h1:c=120;.erw[d9 h1];exact same (md':=.b q w f) (dU l) (I.J<|by erw[h1];decide) J Y7 Y7 Y7 (vz (by erw[h1];decide) l).symm
   erw[d8 h1];by_cases h2:(c::l).take (w+1)=lh q w;.erw[d9 h2];obtain hh:=r4<|h2;refine same (dQ w l) (qa.L (A:=lh q w) (B:=l.drop w) ?_ (λz=>T (mE z).symm)<|by unfold lh;refine ?_;simp) YY Y7 Y7 Y7<|(DM hh.2 T).trans (vz (hh.1▸T) l).symm;have:=eW (w+1)<|c::l;rw[h2]at this;erw[show lh q w++l.drop w=c::l from this];exact I
   erw[d8 h2];by_cases h3:c=10
   .erw[d9 h3];by_cases X:w=0;.erw[d9 X];exact line h3
    .erw[d8 X];exact go (md':=.b q w f) (dU l) J (u.u Y7<|fM _) (λy=>hc) (λy=>u.F Y7 Y7) (gF _)<|by rw[h3,yv];exact m5 _ _ _
   erw[d8 h3];have F:=I.J h3;by_cases O:c=92
   .erw[d9 O];refine cq (gK F) λd r V=>?_;subst V;obtain⟨Y,b2⟩:=bs (.b q w f) O J;show∃M,kg (.b q w f) r (if d=10 then _ else m)=Y6 M/\_;by_cases z:d=10;.erw[d9 z];exact Y d r Y7 z
    .erw[d8 z];exact b2 d r Y7 z
   .erw[d8 O];exact same (md':=.b q w f) (dU l) F J Y7 Y7 Y7 (vz h3 l).symm
structure lu(l:Ln)(M:Mk)(R:Ln)(c:Y9):Prop where
 f:qa l
 o:kg .a (l.map ko) vm=Y6 M
 d:zy vm (l.map ko) M
 k:sm M=Y6 (R,c)
theorem N0{l:Ln}(h:qa l):qa<|l.map ko:=λc hc=>by rw[iA]at hc;obtain⟨d,hd,rfl⟩:=jl hc;rw[h d hd];rfl
theorem N1(l:Ln):S8<|l.map ko:=λc hc=>by
 obtain⟨d,_,rfl⟩:=YD.mp hc;unfold ko;by_cases h1:d=40\/d=123\/d=91;.rw[d9 h1];decide
 .rw[d8 h1];by_cases h2:d=41\/d=125\/d=93;.rw[d9 h2];decide
  .rw[d8 h2];by_cases h3:d=34\/d=39\/d=92\/d=10\/d=35;.rw[d9 h3];clear h2 h1;rcases h3 with rfl|rfl|rfl|rfl|rfl<;>decide
   .rw[d8 h3];decide
theorem vn:sh vm:=⟨by decide,by decide,by decide⟩
theorem Ci{l:Ln}(h:qa l):∃M R c,lu l M R c:=am (MZ _ .a (l.map ko) vm (j7 _) YY (N0 h) (N1 l) vn (λq=>Y7)<|λq=>⟨⟨λq=>Y7,λq=>Y7⟩,by decide⟩) λM e u=>cq (⟨_,_,d9<|decide_eq_decide.mpr u.d⟩:∃R c,sm M=Y6 (R,c)) λR c F=>⟨M,R,c,h,e,u,F⟩
theorem DQ:∀{l:Ln}{g y:Y9},l.Pairwise (·<·)->g∈l->l.getLast?=Y6 y->g<=y
 |[],_,_,_,h,_=>tq h|[a],g,y,_,h,e=>by erw[Yw.mp h];exact eJ<|c0 e|a::b::l,g,y,h,hg,e=>by
  obtain⟨h1,h2⟩:=Zy.mp h;rcases Yn.mp hg with rfl|hg;.exact n6<|h1 y<|gY e
  .exact DQ h2 hg e
section
variable{l:Ln}{M:Mk}{R:Ln}{c:Y9}
theorem lu.cB(h:lu l M R c):M.b=l.count 10:=by rw[h.d.c,VS];exact fA _
theorem lu.rows(h:lu l M R c):c=0/\R=M.d/\M.d.getLast?=Y6 (l.count 10)\/c≠0/\R=M.d++[l.count 10]/\∀g∈M.d,g<l.count 10:=by
 obtain he:=h.k;have u:=h.d.d;unfold AR at u;unfold sm at he;obtain he:=bi (y_.mpr u) he;obtain hR:=i6 Prod.fst<|c0 he;rw[show(if M.c≠2/\M.c≠3/\0<M.a then 4 else M.c)=c from i6 Prod.snd<|c0 he]at u;rw[h.cB]at u hR;by_cases q:M.d.getLast?=Y6 (l.count 10);.exact .inl ⟨u.mpr q,hR.symm.trans<|d9 q,q⟩
 .refine .inr ⟨λz=>q<|u.mp z,hR.symm.trans<|d8 q,λg hg=>bI (h.cB▸h.d.a.b g hg) λz=>q ?_⟩;obtain⟨y,hy⟩:∃y,M.d.getLast?=Y6 y:=⟨_,w8 h.d.a.c⟩;obtain h1:=DQ h.d.a.a hg hy;obtain h2:=h.cB▸h.d.a.b y (gY hy);exact zJ5 hy<|zJ5 (fQ h2<|z▸h1) Y7
theorem lu.ee(h:lu l M R c){g:Y9}(hg:g∈R):g∈M.d\/g=l.count 10:=by
 rcases h.rows with⟨_,e,_⟩|⟨_,e,_⟩;.exact .inl<|e▸hg
 .rw[e]at hg;exact(Yz.mp hg).imp_right Yw.mp
theorem lu.jr(h:lu l M R c){g:Y9}(hg:g∈R)(u:g<l.count 10):g∈M.d:=(h.ee hg).resolve_right<|v9 u
theorem lu.d6(h:lu l M R c){g:Y9}(hg:g∈M.d):g∈R:=by
 rcases h.rows with⟨_,e,_⟩|⟨_,e,_⟩;.exact e▸hg
 .erw[e];exact sE _ hg
theorem lu.V(h:lu l M R c):R.getLast?=Y6 (l.count 10):=by
 rcases h.rows with⟨_,e,q⟩|⟨_,e,_⟩;.rw[e];exact q
 .rw[e,gN]
theorem lu.Z(h:lu l M R c):R.Pairwise (·<·):=by
 rcases h.rows with⟨_,e,_⟩|⟨_,e,q⟩;.rw[e];exact h.d.a.a
 .rw[e];exact Z3.mpr ⟨h.d.a.a,pO _ _,λa F b u=>by rw[Yw.mp u];exact q a F⟩
theorem lu.le(h:lu l M R c){g:Y9}(hg:g∈R):g<=l.count 10:=DQ h.Z hg h.V
theorem lu.T(h:lu l M R c):∃t,R=0::t/\∃u,M.d=0::u:=by
 refine bn h.d.b λu F=>?_;obtain e:M.d=0::u:=F.symm;rcases h.rows with⟨_,e2,_⟩|⟨_,e2,_⟩;.exact⟨u,e2.trans e,u,e⟩
 .exact⟨u++[l.count 10],by refine zJ5 e2<|zJ5 e ?_;rfl,u,e⟩
theorem lu.X(h:lu l M R c):R.length<=l.length+1:=by
 obtain key:∀(R:Ln)(a n:Y9),R.Pairwise (·<·)->(∀g∈R,a<=g/\g<=n)->a<=n+1->R.length<=n+1-a:=by intro R;induction R with|nil=>intro a n _ _ _;exact v8 _|cons g R F=>intro a n h1 h2 h3;obtain⟨h4,h5⟩:=Zy.mp h1;have u:=h2 g<|.head _;have:=F (g+1) n h5 (λz hz=>⟨h4 z hz,(h2 z<|.tail _ hz).2⟩) (by simp[u]);exact ij u this
 have:=key R 0 (l.count 10) h.Z (λg hg=>⟨v8 _,h.le hg⟩) (by simp);have:l.count 10<=l.length:=iN;lia
theorem lu.d7(h:lu l M R c){g:Y9}(hg:g∈M.d):∃M0 R0 G',lu (kd l g) M0 R0 c/\M0.a=M.a/\M0.c=M.c/\M.d=G'++M0.d.map (g+·)/\R=G'++R0.map (g+·):=by
 refine ir (VO h.o hg) λk B M0 G' hk L hc hs e1 e2 I F=>?_;obtain eB:B=(kd l g).map ko:=by
  rw[<-MU jO];rcases L with⟨A,N⟩|⟨rfl,rfl⟩
  .obtain eA:A++[10]++B=l.map ko:=by rw[<-N,v5];rfl
   refine pd eA<|pd (by have:=i6 (List.count 10) eA;rw[hN]at this;simp_all:(A++[10]).count 10=g) ?_;exact(VQ (A++[10]) B<|.inr ⟨A,Y7⟩).symm
  .rw[xC]
 subst eB;refine dp (Ci<|h.f.F<|qO l g) λM1 R1 S t=>?_;obtain em:M1=M0:=by have:=uX (md:=.a) (m:=vm)<|ik hk;rw[hs]at this;exact c0<|t.o.symm.trans this.symm
 subst em;refine am (VP e1 e2 I F t.d.a.c h.k) λR0 O J=>?_;obtain u:=t.k;replace u:=O▸u;cases u;exact⟨M1,_,G',t,e1,e2,F,J⟩
end
theorem BA{c:Y9}(h:mf c):ko c=120/\c≠10/\aJ c:=by rcases(fX _ _▸h:_\/_)with e|e<;>(erw[gL e];decide)
theorem jI{c:Y9}(h:c≠10)(l:Ln)(r:Y9):kd (c::l) (r+1)=kd l (r+1):=i6 (kd l)<|d8 h
theorem N2:∀{l:Ln},10∈l->(l.map ko).dropWhile (·≠10)=10::(kd l 1).map ko:=by intro F;induction F with|nil=>exactλh=>tq h|cons c l u=>
  intro h;rw[gH,w9];by_cases e:c=10;.subst e;refine bk iu ?_;show ko 10::l.map ko=10::(kd l 0).map ko;rw[xC];rfl
  .rw[d9<|by simpa usingλz=>e<|(jO c).mp z,jI e];exact u<|(Yn.mp h).resolve_left<|gP e
theorem VT{l:Ln}{m:Mk}:kg .a (120::l) m=kg .a l m:=by erw[tD];exact bj Y7 Y7
theorem DR{l:Ln}{m:Mk}:kg .a (10::l) m=kg .a l m.u:=by erw[tD];exact bk iu<|bj Y7 Y7
theorem N3{l:Ln}{m:Mk}(h:10∈l):kg .a (35::l) m=kg .a (l.dropWhile (·≠10)) m:=by erw[tD];exact bk iu<|bk iu<|bk iu<|bk iu<|bk iu<|bj Y7<|bj h Y7
theorem VU:∀{l:Ln}{m:Mk},qa l->mj l->kg .a (l.map ko) m=kg .a ((kd l 1).map ko) m.u:=by intro J;induction J with|nil=>exact@λq q h=>pz h|cons c l I=>
  intro m F h;unfold mj at h;rw[w9]at h;rw[gH];by_cases u:mf c=Ye;.rw[d9 u]at h;rw[(BA u).1,VT,jI (BA u).2.1];exact I (F.F<|u3 _ _) h
  .rw[d8 u]at h;by_cases h1:c=10;.subst h1;show kg .a (10::l.map ko) m=kg .a ((kd l 0).map ko) m.u;rw[xC,DR]
   .obtain h2:c=35:=eO λz=>by rw[show vl (c::l)=Yc from(d8 h1).trans<|d8 z]at h;exact pz h
    subst h2;obtain hm:=(F.F<|u3 35 l).I<|F.J iu;show kg .a (35::l.map ko) m=_;rw[N3<|List.mem_map.mpr ⟨10,hm,Y7⟩,N2 hm,DR,jI iu]
section
variable{l:Ln}{M:Mk}{R:Ln}{c:Y9}
theorem lu.cr(h:lu l M R c){g:Y9}(hg:g∈M.d)(hj:mj<|kd l g):g+1∈M.d:=by refine dx (h.d7 hg) λM0 R0 G' t q q e q=>?_;erw[e];exact gR _<|List.mem_map.mpr ⟨1,by obtain e:=(VU t.f hj).symm.trans t.o;refine am (MZ _ .a ((kd (Mine.Lake.L09.kd l g) 1).map ko) vm.u (j7 _) YY (N0<|t.f.F<|qO (Mine.Lake.L09.kd l g) 1) (N1 _) vn.I (λq=>Y7)<|λq=>⟨MX vn Y7,by decide⟩) λM1 e1 u=>?_;replace e1:=e.symm.trans e1;obtain rfl:=c0 e1;exact u.b.mem iu,Y7⟩
theorem lu.U(h:lu l M R c)(hj:∀g∈R,g<l.count 10->mj (kd l g)):c=0/\∀r,r<l.count 10->mj (kd l r):=by
 have I:∀r,r<=l.count 10->r∈M.d:=by intro r;induction r with|zero=>intro _;obtain⟨_,_,u,e⟩:=h.T;erw[e];exact .head _|succ r J=>intro F;exact h.cr (J<|t9 F)<|hj r (h.d6<|J<|t9 F) F
 refine⟨?_,λr F=>hj r (h.d6<|I r<|n6 F) F⟩;rcases h.rows with⟨e,_⟩|⟨_,_,q⟩;.exact e
 .exact g9 (q _<|I _<|j7 _)<|fD _
end
theorem VV:∀(n:Y9){l:Ln},l.length<=n->qa l->(∀r,r<l.count 10->mj (kd l r))->qp l=Yc:=by
 obtain row:∀{l:Ln},qa l->mj l=Ye->qp l=Yc\/l.dropWhile aJ=(kd l 1).dropWhile aJ:=by intro l;induction l with|nil=>intro _ h;exact pz h|cons c l I=>
   intro u h;unfold mj at h;rw[w9]at h;by_cases F:mf c=Ye;.rw[d9 F]at h;have:=I (u.F<|u3 _ _) h;unfold qp at this|-;rw[w9,d9 (BA F).2.2,jI (BA F).2.1];exact this
   .replace h:=d8 F▸h;by_cases h1:c=10;.subst h1;refine .inr ?_;rw[w9,d9 iu];show _=(kd l 0).dropWhile _;rw[xC]
    .obtain h2:c=35:=eO λz=>by rw[show vl (c::l)=Yc from(d8 h1).trans<|d8 z]at h;exact pz h
     subst h2;refine .inl ?_;unfold qp;rfl
 intro n;induction n with|zero=>intro l h _ _;rw[O_.mp<|Nat.le_zero.mp h];rfl|succ n I=>
  intro l h u hj;by_cases J:l=[];.rw[J];rfl
  .have hc:0<l.count 10:=YZ.mpr<|u.I J;obtain h0:=hj 0 hc;rw[xC]at h0;rcases row u h0 with e|e;.exact e
   .have:=I (l:=kd l 1) (by have:=i6 Ys<|qU l 1;rw[j9]at this;exact dG<|i9 (by rw[<-this];exact Nat.lt_add_of_pos_left<|wa hc Nat.one_pos) h) (u.F<|qO l 1) λr L=>by rw[<-jJ,v3];exact hj (r+1)<|zW (l:=l) (r:=1) hc▸Nat.succ_lt_succ L
    unfold qp at this|-;rw[e];exact this
end Mine.Lake.L09
namespace Mine.Lake.L09
open PySem PySem.W PyProof.Rows Mine.Lake Mine.Lake.Rp Mine.Lake.Re MineTop
section
variable{x:Yg}{p c:Y9}{l:Ln}
theorem vC(n i:Y9):Re.mc n (i:Yh)=i:=by unfold Re.mc;rw[d8<|Int.not_lt.mpr<|cD i,pM<|cD _,eH]
theorem H4:rz=⟨#[10]⟩:=by decide
open StrLaws PySem.Builtin PySem.Builtin.Str in
theorem yF{hi i:Y9}(u:hi<=x.length):ZV x ⟨#[10]⟩ hi i ↔ i<hi/\x.cps[i]?=Y6 10 :=
 ⟨λh=>⟨h.1,uq.mp ⟨g8 h.1 u,h.2⟩⟩,λh=>⟨h.1,(uq.mpr h.2).2⟩⟩
open StrLaws PySem.Builtin PySem.Builtin.Str in
theorem wx(x y:Yg)(hi:Y9):(Zc x y 0 hi=Y8/\∀i,¬ZV x y hi i)\/∃i,Zc x y 0 hi=Y6 i/\ZV x y hi i/\∀k,i<k->¬ZV x y hi k:=by
 rw[last_eq];have u:=StrLaws.last_run x y hi (eM 0 (hi+1-0)) [] Y8 (λq h=>nomatch h) (λq h=>nomatch h) (iU ..);have I:∀i,ZV x y hi i->i∈[]++eM 0 (hi+1-0):=λi F=>YX.mpr ⟨v8 _,by have:=F.1;exact(by rw[fA];exact w6 (eU this))⟩;cases J:(X_ (eM 0 (hi+1-0)) Y8 (lastBody x y hi)).run with
 |none=>rw[J]at u;exact .inl ⟨Y7,λi F=>u i (I i F) F⟩
 |some a=>rw[J]at u;exact .inr ⟨a,Y7,u.1,λk hk F=>u.2 k (I k F) hk F⟩
theorem N4{A B C:Ln}(h:x.cps.toList=A++(B++C))(I:nt A)(J:10∉B):na x ((A.length+B.length:Y9):Yh)+1=(A.length:Y9):=by
 obtain hx:x.length=A.length+(B.length+C.length):=by have:=i6 Ys h;rw[n8,j9,j9]at this;exact this
 have u:A.length+B.length<=x.length:=by simp[hx]
 unfold na;rw[vC,show Re.mc x.length 0=0 from vC x.length 0,w7 u,H4];unfold kA;clear hx;rcases wx x ⟨#[10]⟩ (A.length+B.length)with⟨e,F⟩|⟨i,e,hi,F⟩
 .rw[e];rcases I with rfl|⟨A0,rfl⟩;.rfl
  .refine g9 ((yF u).mpr ⟨?_,?_⟩)<|F A0.length;.rw[j9,gA];exact ff
   .rw[<-dP,h,v5,cA<|j7 _,gV];rfl
 .rw[e];obtain⟨h1,h2⟩:=(yF u).mp hi;have h3:i<A.length:=Nat.lt_of_not_le λq=>(λi h1 h2 q=>J<|by rw[<-dP,h,cA h1,fZ<|lY h1 h2]at q;exact nX q:∀i,A.length<=i->i<A.length+B.length->x.cps[i]?≠Y6 10) i q h1 h2;rcases I with rfl|⟨A0,rfl⟩;.exact g9 h3<|eV _
  .rw[j9,gA]at h3|-;obtain h4:i=A0.length:=by refine fQ (dG h3)<|lX λq=>F A0.length q<|(yF u).mpr ⟨by rw[j9,gA];exact ff,?_⟩;rw[<-dP,h,v5,cA<|j7 _,gV];rfl
   subst h4;rfl
theorem H5:∀(n:Y9)(S:Ln),S.length<=n->∃S1 B,S=S1++B/\nt S1/\10∉B
 |n,[],_=>⟨[],[],Y7,.inl Y7,λh=>tq h⟩|0,_::_,h=>g9 h<|dZ _|n+1,a::S,h=>by
  refine bp (H5 n S<|u7 h) λS1 B e h1 h2=>?_;rcases h1 with rfl|⟨q,rfl⟩
  .by_cases u:a=10;.exact⟨[a],B,by erw[e];rfl,.inr ⟨[],by erw[u];rfl⟩,h2⟩
   .exact⟨[],a::B,by erw[e];rfl,.inl Y7,λq=>(Yn.mp q).elim (λw=>u w.symm) h2⟩
  .exact⟨a::(q++[10]),B,by erw[e];rfl,.inr ⟨a::q,Y7⟩,h2⟩
theorem VW:∀(n:Y9){A S C:Ln},S.length<=n->x.cps.toList=A++(S++C)->nt A->nt S->back x (S.count 10) ((A.length+S.length:Y9):Yh)=(A.length:Y9):=by intro n;induction n with
 |zero=>intro A S C u h F J;cases S with|nil=>rfl|cons=>exact g9 u<|dZ _
 |succ n L=>
  intro A S C u h F J;rcases S with _|⟨a,S⟩;.rfl
  obtain⟨q,N⟩:=J.resolve_left (λq=>by cases q);rw[N]at h u|-;refine bp (H5 q.length q<|j7 _) λS1 B e h1 h2=>?_;subst e;have I:(S1++B++[10]).length=S1.length+B.length+1:=by refine zJ5 j9<|zJ5 j9 ?_;rfl
  have hc:(S1++B++[10]).count 10=S1.count 10+1:=by refine zJ5 hN<|zJ5 hN<|zJ5 (List.count_eq_zero.mpr h2) ?_;rfl
  obtain e1:=N4 (x:=x) (A:=A++S1) (B:=B) (C:=[10]++C) (by erw[h];simp) (by
   rcases h1 with rfl|⟨r,rfl⟩;.rw[eY];exact F
   .exact .inr ⟨A++r,by rw[v5]⟩) h2;refine zJ5 hc<|zJ5 I ?_;show back x (S1.count 10) (na x (((A.length+(S1.length+B.length+1):Y9):Yh)-1)+1)=_;refine zJ5 (by rw[j9];exact(ck<|eG<|_+(_+_)).trans<|i6 Int.ofNat (m3 _ _ _).symm:((A.length+(S1.length+B.length+1):Y9):Yh)-1=(((A++S1).length+B.length:Y9):Yh))<|zJ5 e1<|zJ5 j9 ?_;exact L (C:=B++[10]++C) (by rw[I]at u;exact eU<|u7 u) (by erw[h];simp) F h1
theorem VY{q:Y9}(u:q=x.length):vP x rz (Re.mc x.length (p:Y9)) (Ze (Re.mc x.length (q:Y9)) x.length)=gE x rz (p:Y9):=by rw[vC,vC,u,Nat.min_self];unfold gE;rfl
theorem DS{code:Yp Y9}{is:Yb Yh}{q:Y9}(u:q=x.length)(hs:x.length<=1000)(hp:p<=x.length)(h:is=[((p:Y9):Yh)]\/is=[((p:Y9):Yh),((q:Y9):Yh)]):pq code x is=zG code x.cps p x.length:=by
 obtain hx:x.cps.size=x.length:=Y7;unfold pq;rcases h with rfl|rfl
 .rw[d9];.show zG code x.cps (Ze ((p:Y9):Yh).toNat x.cps.size) (Ze (2^63-1:Yh).toNat x.cps.size)=_;rw[eH,hx,w7 hp,fE<|g8 hs iu]
  .show(Yk (-(2^63:Yh)<=((p:Y9):Yh))&&Yk (((p:Y9):Yh)<2^63)&&Yk (-2^63<=(2^63-1:Yh))&&Yk ((2^63-1:Yh)<2^63))=Ye;rw[i7 da,i7<|db<|g8 hp hs];rfl
 .rw[d9];.show zG code x.cps (Ze ((p:Y9):Yh).toNat x.cps.size) (Ze ((q:Y9):Yh).toNat x.cps.size)=_;rw[eH,eH,hx,u,w7 hp,Nat.min_self]
  .show(Yk (-(2^63:Yh)<=((p:Y9):Yh))&&Yk (((p:Y9):Yh)<2^63)&&Yk (-2^63<=((q:Y9):Yh))&&Yk (((q:Y9):Yh)<2^63))=Ye;rw[i7 da,i7<|db<|g8 hp hs,i7 da,i7<|db<|g8 (eJ u) hs];rfl
end
end Mine.Lake.L09
namespace Mine.Lake.L09
open PySem PySem.W Mine.Lake Mine.Lake.Rp Mine.Lake.Re MineTop
section
variable{x:Yg}{b p:Y9}{l:Ln}{c:Y9}
theorem kI(hs:x.length<=1000)(h:Re.At x.cps b p<|c::l):lc x (p:Y9)=Y6 ⟨#[c]⟩:=by refine bq h.J λh1 h2 h3=>?_;obtain hp:p<x.length:=i9 h1 h.a;unfold lc;rw[d9<|vG (by simp)<|Int.ofNat_le.mpr<|g8 (n6 hp) hs,vL hp,u6,(by rw[gG,dM hp]at h2;rw[dM hp];exact i6 Y6 h2:x.cps[p]?=Y6 c)];rfl
theorem H6{code:Yp Y9}(hs:x.length<=1000)(hp:p<=x.length)(u:b<=x.length):pq code x [((p:Y9):Yh),((b:Y9):Yh)]=zG code x.cps p b:=by
 obtain hx:x.cps.size=x.length:=Y7;unfold pq;rw[d9];.show zG code x.cps (Ze ((p:Y9):Yh).toNat x.cps.size) (Ze ((b:Y9):Yh).toNat x.cps.size)=_;simp only[eH,eH,hx,w7 hp,w7 u]
 .show(Yk (-(2^63:Yh)<=((p:Y9):Yh))&&Yk (((p:Y9):Yh)<2^63)&&Yk (-2^63<=((b:Y9):Yh))&&Yk (((b:Y9):Yh)<2^63))=Ye;rw[i7 da,i7<|db<|g8 hp hs,i7 da,i7<|db<|g8 u hs];rfl
theorem VZ(h:Re.At x.cps b p<|c::l):x.cps[p]?=Y6 c:=by refine bq h.J λh1 h2 h3=>?_;obtain hp:p<x.cps.size:=i9 h1 h.a;rw[gG,dM hp]at h2;refine(dM hp).trans ?_;exact i6 Y6 h2
theorem uN(hm:10∈l):∃r,l=l.takeWhile (·!=10)++10::r/\l.dropWhile (·!=10)=10::r:=by obtain⟨r,u⟩:=ML hm;exact⟨r,by have:=@r8 _ (·!=10) l;rw[u]at this;exact this.symm,u⟩
open PySem.Builtin PySem.Builtin.Str in
theorem N5(h:Re.At x.cps b p l)(hm:10∈l):vP x rz (Re.mc x.length (p:Y9)) (Ze (Re.mc x.length (b:Y9)) x.length)=((p+(l.takeWhile (· != 10)).length:Y9):Yh):=by
 refine am (uN hm) λr e1 e2=>?_;have L:=(h.N (f:=(· != 10))).2;rw[e2]at L;have J:=VZ L;have u:=L.J.1;have I:b<=x.length:=h.a;obtain hno:∀j,p<=j->j<p+(l.takeWhile (· != 10)).length->x.cps[j]?≠Y6 10:=λj h1 h2 z=>by have:=h.S (f:=(· != 10)) (j-p) (lY h1 h2);rw[dO h1,gG,z]at this;cases this
 rw[vC,vC,w7 I,H4];unfold vP;rw[StrLaws.occ_eq];obtain hpq:=m7 _ _;generalize p+(l.takeWhile (· != 10)).length=q at J u hno hpq |-;have F:=YX.mpr ⟨hpq,fg u⟩;rcases StrLaws.occ_first x ⟨#[10]⟩ b 1 (j7 _) (eM p (b+1-p)) p (λi hi=>(YX.mp hi).1)with⟨_,N⟩|⟨pre,a,S,e,O,T,N⟩
 .exact g9 ((yF I).mpr ⟨u,J⟩) (N q F)
 .obtain haq:a=q:=by
   rcases pB a q with c|c|c
   .exact g9 (((yF I).mp T).2) (hno a ((YX.mp (by rw[e];exact gR _ (.head _))).1) c)
   .exact c
   .exfalso;refine N q ?_ ((yF I).mpr ⟨u,J⟩);rw[e]at F;rcases Yz.mp F with m|m
    .exact m
    .rcases Yn.mp m with m|m
     .lia
     .have:=(Z3.mp (by rw[<- e];exact iU ..)).2.1;have:=(Zy.mp this).1 q m;lia
  clear F hpq hno I u J L h hm;subst haq;generalize(X_ (eM p (b+1-p)) ((#[]:Yp Y9),p) (Y_ x ⟨#[10]⟩ b 1)).run.fst=arr at O;have h5:arr.toList[0]?=Y6 a:=by rw[dP];exact O
  cases hL:arr.toList with
  |nil=>replace h5:=hL▸h5;cases h5
  |cons b t=>rw[hL]at h5;obtain rfl:=c0 h5;rfl
theorem N6(h:Re.At x.cps x.length p l)(hm:10∈l):gE x rz (p:Y9)=((p+(l.takeWhile (·!=10)).length:Y9):Yh):=by refine pd (VY (q:=x.length) Y7) ?_;exact N5 h hm
theorem N7{i t:Y9}(hi:i<=x.length):zP x (i:Y9) ((i+t:Y9):Yh)=⟨((x.cps.toList.drop i).take t).toArray⟩:=by unfold zP;rw[LJ x.cps.toList<|by exact hi]
theorem uG(h:x.cps.toList.drop p=l)(hp:p<=x.length):Re.At x.cps x.length p l:=⟨by unfold xh;rw[h,dW];refine pd h<|zJ5 r9<|?_;exact j7 _,hp,j7 _⟩
theorem W1{A B C:Ln}(h:x.cps.toList=A++(B++C)):Re.At x.cps (A.length+B.length) A.length B:=⟨by unfold xh;simp only[h,gZ,dD,oT],m7 _ _,by have:=i6 Ys h;simp only[n8,j9,j9]at this;simp[this]⟩
end
structure Z where
 a:Ln
 c:Yb<|Nat×Y9
 b:Yg
def b3(c:Y9):Yj:=c==32||c==9||c==10
def uy(c:Y9):Yj:=c==40||c==91||c==123
def cls(c:Y9):Yj:=c==41||c==93||c==125
def xN(w:Ln)(z:Yg):Yg:=w.foldl (λz c=>if b3 c then z else⟨#[c]⟩) z
def rj(c:Y9)(r:Ln):Y9:=if uy c=Ye\/cls c then 1 else if c=34\/c=39 then ol (c::r)else if c=35 then(r.takeWhile (·!=10)).length+2 else 2
def ua(p c:Y9)(r:Ln)(z:Z):Z:=if uy c then⟨z.a++[p],z.c++[(p,(z.a++[p]).length)],⟨#[c]⟩⟩else if cls c then⟨z.a.dropLast,z.c++[(p+1,z.a.dropLast.length)],⟨#[c]⟩⟩else if c=34\/c=39 then⟨z.a,z.c++[(p,z.a.length+1)]++[(p+ol (c::r),z.a.length)],⟨#[c]⟩⟩else if c=35 then⟨z.a,z.c++[(p,z.a.length+1)]++[(p+((r.takeWhile (·!=10)).length+2),z.a.length)],z.b⟩else⟨z.a,z.c,match r with|[]=>z.b|d::_=>if d=10 then z.b else⟨#[92,d]⟩⟩
def mm:Y9->Y9->Ln->Z->Z:=nr (λq q z=>z) λf p l z=>match l.dropWhile oj with|[]=>{z with b:=xN (l.takeWhile oj) z.b}|c::r=>f (p+(l.takeWhile oj).length+rj c r) ((c::r).drop<|rj c r)<|ua (p+(l.takeWhile oj).length) c r {z with b:=xN (l.takeWhile oj) z.b}
def wy(a:Y9)(l:Ln):Yb Yh:=l.map λi=>((a+i:Y9):Yh)
def AS(a:Y9)(l:Yb<|Nat×Y9):Yb<|Int×Yh:=l.map λb=>(((a+b.1:Y9):Yh),((b.2:Nat):Yh))
def upZ(a p:Y9)(z:Z):S2:=⟨((a+p:Y9):Yh),wy a z.a,AS a z.c,z.b⟩
theorem W2{a p:Y9}{l:Ln}:wy a (l++[p])=wy a l++[((a+p:Y9):Yh)]:=eQ ..
theorem vV{a p k:Y9}{l:Yb<|Nat×Y9}:AS a (l++[(p,k)])=AS a l++[(((a+p:Y9):Yh),((k:Y9):Yh))]:=eQ ..
theorem W3{a:Y9}{l:Ln}:wy a l.dropLast=(wy a l).dropLast:=mX ..
theorem DT{a:Y9}{l:Ln}:ln (wy a l)=((l.length:Y9):Yh):=by unfold ln wy;rw[n5]
theorem N8:∀c,c<128->u9 " \t\n" ⟨#[c]⟩=b3 c:=jg
theorem N9:∀c,c<128->u9 "([{" ⟨#[c]⟩=uy c/\u9 ")]}" ⟨#[c]⟩=cls c:=jg
theorem wb:∀c,c<128->oj c=Yc->uy c=Ye\/cls c=Ye\/c=34\/c=39\/c=35\/c=92:=jg
theorem rc{c d:Y9}:(⟨#[c]⟩:Yg)=⟨#[d]⟩↔c=d:=⟨λh=>by injection h with h;injection h with h;injection h,λh=>by exact zJ5 h Y7⟩
section
variable{s:S2}{ch:Yg}{q:Yh}{x:Yg}(hg:lc x s.p=Y6 ch)
include hg
theorem W4(h:u9 "([{" ch):kK x q s=Y6 {p:=s.p+1,a:=s.a++[s.p],b:=s.b++[(s.p,ln<|s.a++[s.p])],c:=ch}:=by unfold kK;simp only[hg,u6,d9 h]
variable(h1:¬u9 "([{" ch=Ye)
include h1
theorem W5(h:u9 ")]}" ch):kK x q s=Y6 {p:=s.p+1,a:=s.a.dropLast,b:=s.b++[(s.p+1,ln s.a.dropLast)],c:=ch}:=by unfold kK;simp only[hg,u6];exact bk h1<|bj h Y7
variable(h2:¬u9 ")]}" ch=Ye)
include h2
theorem W6(h:ch="\""\/ch="'"){m:Y9×Y9}(u:pq kf x [s.p,q]=Y6 (Y6 m)):kK x q s=Y6 {p:=(m.2:Y9),a:=s.a,b:=s.b++[(s.p,ln s.a+1)]++[(((m.2:Y9):Yh),ln s.a)],c:=ch}:=by unfold kK;rw[hg,u6,d8 h1,d8 h2,d9 h,u];rfl
variable(h3:¬(ch="\""\/ch="'"))
include h3
theorem W7(h:ch="#"){r:Y9}(u:vP x rz (Re.mc x.length s.p) (Ze (Re.mc x.length q) x.length)=(r:Y9)):kK x q s=Y6 {p:=((r+1:Y9):Yh),a:=s.a,b:=s.b++[(s.p,ln s.a+1)]++[(((r+1:Y9):Yh),ln s.a)],c:=s.c}:=by unfold kK;rw[hg,u6,d8 h1,d8 h2,d8 h3,d9 h,u];exact d9<|Int.natCast_pos.mpr<|eG r
theorem W8(h4:¬ch="#")(h:ch="\\"/\s.p+1<q){d:Yg}(hd:lc x (s.p+1)=Y6 d):kK x q s=Y6 {s with p:=s.p+1+1,c:=if d=rz then s.c else ch++d}:=by unfold kK;rw[hg,u6,d8 h1,d8 h2,d8 h3,d8 h4,d9 h,hd];rfl
end
section
variable{x:Yg}{a b p c n:Y9}{l r:Ln}{z:Z}
theorem Na:0<ol (c::r):=by
 show 0<if r.take 2=[c,c]then mo c Yc (r.drop 2)+3 else nq c Yc r+1;by_cases h:r.take 2=[c,c];.rw[d9 h];exact eG _
 .rw[d8 h];exact eG _
theorem H7:0<rj c r:=by
 unfold rj;by_cases h1:uy c=Ye\/cls c=Ye;.rw[d9 h1];exact Nat.one_pos
 rw[d8 h1];by_cases h2:c=34\/c=39;.rw[d9 h2];exact Na
 rw[d8 h2];by_cases h3:c=35;.rw[d9 h3];exact eG _
 rw[d8 h3];decide
theorem W9{q:Y9}(hs:x.length<=1000)(hc:∀c∈l,c<128)(last:Yg)(h:Re.At x.cps q p l):∀(k fuel:Y9),k<fuel->k<=l.length->∃i,AP x (p:Y9) fuel (((p+k:Y9):Yh)-1)=Y6 i/\(if i≥((p:Y9):Yh)then lc x i else Y6 last)=Y6 (xN (l.take k) last):=by intro J;induction J with
  |zero=>exact fun|fuel+1,_,_=>⟨((p+0:Y9):Yh)-1,d8<|by simp+arith,d8<|by simp+arith⟩
  |succ k I=>exact fun
   |fuel+1,hk,hp=>by
    obtain hd:=At.skip k h<|t9 hp;rw[dK (l:=l) (i:=k) hp]at hd;have F:=kI hs hd;obtain e:((p+(k+1):Y9):Yh)-1=((p+k:Y9):Yh):=ZS.mpr Y7;obtain hge:((p+k:Y9):Yh)≥((p:Y9):Yh):=Int.le.intro _ Y7;rw[e,(by rw[(List.take_append_getElem hp).symm];unfold xN;rw[List.foldl_append];rfl:xN (l.take<|k+1) last=if b3 l[k]then xN (l.take k) last else⟨#[l[k]]⟩)];refine am (I fuel (fG hk)<|t9 hp) λi h1 h2=>?_;show∃i,(if((p+k:Y9):Yh)≥((p:Y9):Yh)then(lc x ((p+k:Y9):Yh)).bind λc=>if u9 " \t\n" c=Ye then AP x (p:Y9) fuel (((p+k:Y9):Yh)-1)else Y6 ((p+k:Y9):Yh)else Y6 ((p+k:Y9):Yh))=Y6 i/\_;rw[d9 hge,F,u6,N8 _<|hc _<|gT hp];by_cases u:b3 l[k]=Ye;·rw[d9 u,d9 u];exact⟨i,h1,h2⟩
    ·rw[d8 u,d8 u];exact⟨_,Y7,by rw[d9 hge];exact F⟩
theorem DU:∀(l:Ln)(e:Yj),mo c e l<=l.length
 |[],_=>j7 _|_::l,Ye=>m9<|DU l Yc|d::l,Yc=>by
  rw[GS];by_cases h:d=c
  .rw[d9 h];by_cases h2:l.take 2=[c,c];.rw[d9 h2];have:=i6 Ys h2;rw[dF]at this;exact m9<|du<|this.trans Y7
   .rw[d8 h2];exact m9<|DU l Yc
  .rw[d8 h];by_cases h2:d=92/\l=[];.rw[d9 h2];exact v8 _
   .rw[d8 h2];exact m9<|DU l _
theorem H8:∀(l:Ln)(e:Yj),nq c e l<=l.length
 |[],_=>j7 _|_::l,Ye=>m9<|H8 l Yc|d::l,Yc=>by
  erw[My];by_cases h:d=c;.erw[d9 h];exact m9<|v8 _
  .erw[d8 h];by_cases h2:d=10\/d=92/\l=[];.erw[d9 h2];exact v8 _
   .erw[d8 h2];exact m9<|H8 l _
theorem H9:ol (c::r)<=r.length+1:=by
 show(if r.take 2=[c,c]then mo c Yc (r.drop 2)+3 else nq c Yc r+1)<=_;by_cases h:r.take 2=[c,c];.rw[d9 h];obtain h1:=DU (c:=c) (r.drop 2) Yc;obtain h2:=i6 Ys h;rw[dF]at h2;rw[r9]at h1;exact m9<|Nat.add_le_of_le_sub (du<|h2.trans Y7) h1
 .rw[d8 h];exact m9<|H8 r Yc
theorem Wa(hs:x.length<300)(h:Re.At x.cps b (a+p)<|c::r)(T:qa<|c::r)(S:c<128)(Y:oj c=Yc):kK x (b:Y9) (upZ a p z)=Y6 (upZ a (p+rj c r)<|ua p c r z)/\rj c r<=r.length+1:=by
 obtain hs':x.length<=1000:=bu hs;obtain hp:a+p<=x.length:=g8 h.le h.a;have hg:lc x (upZ a p z).p=Y6 ⟨#[c]⟩:=kI hs' h;obtain⟨o1,o2⟩:=N9 c S;obtain hsp:=wb c S Y;by_cases F:uy c=Ye
 .erw[W4 hg<|o1.trans F];refine⟨i6 Y6 ?_,?_⟩;.unfold ua rj;refine zJ5 (d9 F)<|zJ5 (d9<|.inl F) ?_;unfold upZ;refine zJ5 vV<|pd (DT (a:=a))<|zJ5 W2 ?_;rfl
  .unfold rj;erw[d9<|.inl F];exact m9<|v8 _
 obtain n1:¬u9 "([{" ⟨#[c]⟩=Ye:=λz=>F<|o1.symm.trans z;by_cases I:cls c=Ye
 .erw[W5 hg n1<|o2.trans I];refine⟨i6 Y6 ?_,?_⟩;.unfold ua rj;refine zJ5 (d8 F)<|zJ5 (d9 I)<|zJ5 (d9<|.inr I) ?_;unfold upZ;refine zJ5 vV<|pd (DT (a:=a))<|zJ5 W3 ?_;rfl
  .unfold rj;erw[d9<|.inr I];exact m9<|v8 _
 have O:¬u9 ")]}" ⟨#[c]⟩=Ye:=λz=>I<|o2.symm.trans z;obtain n12:¬(uy c=Ye\/cls c=Ye):=λz=>z.elim F I;by_cases u:c=34\/c=39
 .have Z:(⟨#[c]⟩:Yg)="\""\/(⟨#[c]⟩:Yg)="'":=u.imp λz=>by erw[z];rfl λz=>by erw[z];rfl
  erw[W6 hg n1 O Z<|(H6 hs' hp h.a).trans<|MK h u<|r5 h.a hs];refine⟨i6 Y6 ?_,?_⟩;.unfold ua rj;refine zJ5 (d8 F)<|zJ5 (d8 I)<|zJ5 (d9 u)<|zJ5 (d8 n12)<|zJ5 (d9 u) ?_;unfold upZ;rw[vV,vV,<-m3];have:=DT (a:=a) (l:=z.a);simp only[this];rfl
  .unfold rj;refine zJ5 (d8 n12)<|zJ5 (d9 u) ?_;exact H9
 have V:¬((⟨#[c]⟩:Yg)="\""\/(⟨#[c]⟩:Yg)="'"):=λz=>u<|z.imp rc.mp rc.mp;have N:c≠10:=by rintro rfl;rcases hsp with z|z|z|z|z|z<;>cases z
 have L:=T.J N;have hm:=(T.F<|u3 c r).I L;by_cases J:c=35
 .obtain hf:=N5 h<|.tail _ hm;rw[v6,d9<|by simpa using N,m4]at hf;erw[W7 hg n1 O V (by rw[J];rfl) hf];refine⟨i6 Y6 ?_,?_⟩;.unfold ua rj;refine zJ5 (d8 F)<|zJ5 (d8 I)<|zJ5 (d8 u)<|zJ5 (d9 J)<|zJ5 (d8 n12)<|zJ5 (d8 u)<|zJ5 (d9 J) ?_;unfold upZ;refine zJ5 vV<|zJ5 vV ?_;have:=DT (a:=a) (l:=z.a);simp only[this,(by simp+arith:a+p+((r.takeWhile (·!=10)).length+1)+1=a+(p+((r.takeWhile (·!=10)).length+2)))];rfl
  .unfold rj;refine zJ5 (d8 n12)<|zJ5 (d8 u)<|zJ5 (d9 J) ?_;obtain⟨t,e1,_⟩:=uN hm;have:=i6 Ys e1;rw[j9,m4]at this;rw[this];exact m9<|i8 (bA 1 t.length)<|(List.takeWhile (λx=>x !=10) r).length
 have X:c=92:=by
  rcases hsp with z|z|z|z|z|z;.exact g9 z F
  .exact g9 z I
  .exact g9 (.inl z) u
  .exact g9 (.inr z) u
  .exact g9 z J
  .exact z
 refine cq (gK L) λd t U=>?_;subst U;obtain h2:=h.J.2.2;erw[W8 hg n1 O V (λz=>J<|rc.mp z) ⟨by rw[X];rfl,W_.mpr h2.J.1⟩<|kI hs' h2];refine⟨i6 Y6 ?_,?_⟩
 .unfold ua rj;refine zJ5 (d8 F)<|zJ5 (d8 I)<|zJ5 (d8 u)<|zJ5 (d8 J)<|zJ5 (d8 n12)<|zJ5 (d8 u)<|zJ5 (d8 J) ?_;unfold upZ;obtain e:(if(⟨#[d]⟩:Yg)=rz then z.b else⟨#[c]⟩++⟨#[d]⟩)=if d=10 then z.b else⟨#[92,d]⟩:=by
   by_cases hd:d=10;.rw[d9 hd,d9<|by rw[hd];rfl]
   .refine zJ5 (d8 hd)<|zJ5 H4<|zJ5 (d8 λz=>hd<|rc.mp z)<|zJ5 X ?_;rfl
  simp only[e];rfl
 .unfold rj;refine zJ5 (d8 n12)<|zJ5 (d8 u)<|zJ5 (d8 J) ?_;exact m9<|m9<|v8 _
structure yw(p:Y9)(z:Z):Prop where
 st:z.a.length<=p
 a:z.c.length<=2*p+1
 b:∀s∈z.a,s<p
theorem yw.mono{q:Y9}(h:yw p z)(u:p<=q){s:Yg}:yw q {z with b:=s}:=⟨g8 h.st u,g8 h.a<|m9<|aY 2 u,λs hs=>i9 (h.b s hs) u⟩
theorem yw.step(h:yw p z):yw (p+rj c r)<|ua p c r z:=by
 have hk:=H7 (c:=c) (r:=r);have h1:=h.st;have h2:=h.a;have h3:∀s∈z.a,s<p+rj c r:=λs hs=>i9 (h.b s hs)<|m7 _ _;unfold ua;by_cases J:uy c=Ye;.erw[d9 J];exact⟨by refine zJ5 j9<|?_;exact dS h1 hk,by refine zJ5 j9<|?_;exact t9<|dm hk h2,λs hs=>(Yz.mp hs).elim (h3 s) λz=>by erw[Yw.mp z];exact dH hk⟩
 erw[d8 J];by_cases I:cls c=Ye;.erw[d9 I];exact⟨by erw[lO];exact g8 (iY _ _)<|g8 h1<|m7 _ _,by refine zJ5 j9<|?_;exact t9<|dm hk h2,λs hs=>h3 s<|lQ _ hs⟩
 erw[d8 I];by_cases F:c=34\/c=39;.erw[d9 F];exact⟨g8 h1<|m7 _ _,by rw[j9,j9,gA,gA];exact dm hk h2,h3⟩
 erw[d8 F];by_cases u:c=35;.erw[d9 u];exact⟨g8 h1<|m7 _ _,by rw[j9,j9,gA,gA];exact dm hk h2,h3⟩
 erw[d8 u];exact⟨g8 h1<|m7 _ _,g8 h2<|by simp+arith,h3⟩
theorem Nb(h:l.dropWhile oj=[]):mm (n+1) p l z={z with b:=xN (l.takeWhile oj) z.b}:=by show(match l.dropWhile oj with|[]=>_|c::r=>_)=_;exact zJ5 h Y7
theorem Ha(h:l.dropWhile oj=c::r):mm (n+1) p l z=mm n (p+(l.takeWhile oj).length+rj c r) ((c::r).drop<|rj c r) (ua (p+(l.takeWhile oj).length) c r {z with b:=xN (l.takeWhile oj) z.b}):=by show(match l.dropWhile oj with|[]=>_|c::r=>_)=_;exact zJ5 h Y7
theorem Wb(hs:x.length<300):∀(n p:Y9)(l:Ln)(z:Z),l.length<n->n<=1000->Re.At x.cps b (a+p) l->qa l->(∀d∈l,d<128)->yw p z->∃e,uY x (b:Y9) n (upZ a p z)=Y6 (upZ a e<|mm n p l z)/\yw (p+l.length) (mm n p l z):=by intro U;induction U with|zero=>exactλw w w h w w w w w=>g9 h<|eV _|succ n X=>exact fun
   |p,[],z,_,_,h,_,_,hF=>by refine⟨p,?_,hF⟩;show(if((a+p:Y9):Yh)<((b:Y9):Yh)then _ else Y6<|upZ a p z)=_;refine bk (by rw[h.L];exact sM _) ?_;rfl|p,d::l,z,hl,hn,h,hnl,h7,hF=>by
    have N:x.length<=1000:=bu hs;have hp:a+p<=x.length:=g8 h.le h.a;have u:=h.O;obtain hst:¬((upZ a p z).a.length>1000\/(upZ a p z).b.length>1000):=by obtain h1:(wy a z.a).length=z.a.length:=n5 ..;obtain h2:(AS a z.c).length=z.c.length:=n5 ..;obtain h5:=h.a;obtain h6:x.cps.size=x.length:=Y7;show¬((wy a z.a).length>1000\/(AS a z.c).length>1000);rw[h1,h2];exactλq=>by have h:=r5 (nF hp) hs;exact q.elim (λq=>g9 (i9 q hF.st)<|Nat.not_lt.mpr<|bu h) λq=>g9 (i9 q<|g8 hF.a<|m9<|aY 2<|n6 h) iu
    obtain hchew:pq lk x [(upZ a p z).p,((b:Y9):Yh)]=_:=(H6 N hp h.a).trans<|Vw h.J.1 (by have:=h.a;obtain h6:x.cps.size=x.length:=Y7;exact u▸i9 (Nat.add_lt_add_of_le_of_lt (g8 hp<|n6 hs)<|i9 hl hn) iu) h.N.1;obtain hw:=(by have:=i6 Ys<|@r8 _ oj<|d::l;rw[j9]at this;exact this);have h1:=h.N (f:=oj).2;have hd:∀r c,(d::l).dropWhile oj=c::r->∃e,((kK x (b:Y9)<|upZ a (p+((d::l).takeWhile oj).length) {z with b:=xN ((d::l).takeWhile oj) z.b}).map λs=>(Yc,s)).bind (λr=>if r.1 then Y6 r.2 else uY x (b:Y9) n r.2)=Y6 (upZ a e<|mm (n+1) p (d::l) z)/\yw (p+(d::l).length) (mm (n+1) p (d::l) z):=by
      intro r c hc;rw[hc,m3]at h1;obtain hsf:c::r<:+d::l:=hc▸eF _;refine cg (Wa (z:={z with b:=xN ((d::l).takeWhile oj) z.b}) hs h1 (hnl.F hsf) (h7 c<|hsf.mem<|.head _)<|kZ hc) λV L=>?_;have h3:=At.skip (rj c r) h1 L;rw[hc,m4]at hw;have F:((c::r).drop<|rj c r).length=r.length+1-rj c r:=by rw[r9,m4]
      have I:(c::r).drop (rj c r)<:+d::l:=(dQ _ _).trans hsf;refine am (X (p+((d::l).takeWhile oj).length+rj c r) ((c::r).drop<|rj c r) (ua (p+((d::l).takeWhile oj).length) c r {z with b:=xN ((d::l).takeWhile oj) z.b}) (by rw[F];exact i9 (iO (eG r.length)<|H7 (c:=c) (r:=r))<|g8 (cn hw)<|dG hl) (n6 hn)
        (by rw[<-m3,<-m3];rw[<-m3]at h3;exact h3) (hnl.F I) (λy hy=>h7 y<|I.mem hy) (hF.mono<|m7 _ _).step) λe e1 e2=>⟨e,?_,?_⟩;·rw[V,Ha hc];exact e1
      ·rw[Ha hc];exact⟨g8 e2.st<|dr hw L F,g8 e2.a<|m9<|aY 2<|dr hw L F,λs hs=>i9 (e2.b s hs)<|dr hw L F⟩
    show∃e,(if((a+p:Y9):Yh)<((b:Y9):Yh)then(Dy x (b:Y9)<|upZ a p z).bind λr=>if r.1=Ye then Y6 r.2 else uY x (b:Y9) n r.2 else Y6<|upZ a p z)=_/\_;rw[d9<|Int.ofNat_lt.mpr h.J.1];unfold Dy;rw[d8 hst,hchew,u6];by_cases J:((d::l).takeWhile oj).length=0;·rw[d9 J];rw[J,fA]at hw;refine cq (List.exists_cons_of_length_eq_add_one hw) λc r hc=>?_;have:=hd r c hc;rw[(by rw[O_.mp J];rfl:upZ a (p+((d::l).takeWhile oj).length) {z with b:=xN ((d::l).takeWhile oj) z.b}=upZ a p z)]at this;exact this
    ·rw[d8 J];refine am (W9 N h7 z.b h ((d::l).takeWhile oj).length 1000 (by have:=h.a;exact im hs u hw Y7 this)<|DG _) λi i1 i2=>?_;rw[(by have:=@oT _ ((d::l).takeWhile oj)<|(d::l).dropWhile oj;rw[r8]at this;exact this:(d::l).take ((d::l).takeWhile oj).length=(d::l).takeWhile oj)]at i2;show∃e,(((AP x (upZ a p z).p 1000<|((a+p+((d::l).takeWhile oj).length:Y9):Yh)-1).bind λi=>(if i≥(upZ a p z).p then lc x i else Y6 (upZ a p z).c).bind λl'=>if((a+p+((d::l).takeWhile oj).length:Y9):Yh)≥((b:Y9):Yh)then Y6 (Ye,({p:=((a+p+((d::l).takeWhile oj).length:Y9):Yh),a:=(upZ a p z).a,b:=(upZ a p z).b,c:=l'}:S2))else(kK x (b:Y9) {p:=((a+p+((d::l).takeWhile oj).length:Y9):Yh),a:=(upZ a p z).a,b:=(upZ a p z).b,c:=l'}).map λs=>(Yc,s)).bind λr=>if r.1=Ye then Y6 r.2 else uY x (b:Y9) n r.2)=_/\_;have S:AP x (upZ a p z).p 1000 (((a+p+((d::l).takeWhile oj).length:Y9):Yh)-1)=Y6 i:=i1;have O:(if i≥(upZ a p z).p then lc x i else Y6 (upZ a p z).c)=Y6 (xN ((d::l).takeWhile oj) z.b):=i2;rw[S,u6,O,u6];cases hc:(d::l).dropWhile oj with|nil=>rw[hc]at hw;have T:((d::l).takeWhile oj).length=(d::l).length:=hw;rw[d9<|by rw[T];exact Z9.mpr<|eJ u.symm,Nb hc];refine⟨p+((d::l).takeWhile oj).length,?_,hF.mono<|m7 _ _⟩;unfold upZ;rw[<-m3];rfl|cons c r=>rw[hc,m4]at hw;rw[d8<|by rw[Int.not_le,W_];exact by rw[<-u,<-hw];exact oA (dH<|eG r.length) _];have:=hd r c hc;unfold upZ at this|-;rw[<-m3]at this;exact this
theorem Nc(hs:x.length<300)(h:Re.At x.cps b a l)(u:qa l)(I:∀d∈l,d<128):∃e,qq x (a:Y9) (b:Y9)=Y6 ⟨(a:Y9),(b:Y9),upZ a e<|mm 1000 0 l ⟨[],[(0,0)],""⟩⟩/\∀s∈(mm 1000 0 l ⟨[],[(0,0)],""⟩).a,s<l.length:=by obtain hb:b<300:=r5 h.a hs;obtain hlen:=h.O;refine am (Wb hs 1000 0 l ⟨[],[(0,0)],""⟩ (r5 (cn hlen)<|bx hb) (j7 _) h u I ⟨j7 _,j7 _,λq z=>tq z⟩) λe e1 e2=>?_;refine⟨e,?_,λs hs=>by have:=e2.b s hs;rwa[fA]at this⟩;unfold qq;have F:uY x (b:Y9) 1000 ⟨((a:Y9):Yh),[],[(((a:Y9):Yh),0)],""⟩=Y6 (upZ a e<|mm 1000 0 l ⟨[],[(0,0)],""⟩):=e1;rw[F];rw[(by
  refine d9 ⟨?_,?_⟩;.show(wy a _).length<=1000;unfold wy;rw[n5];exact g8 (fA l.length▸e2.st)<|g8 (cn hlen)<|bu hb
  .show(AS a _).length<=1000;unfold AS;rw[n5];exact by obtain x2:=e2.a;rw[fA]at x2;exact g8 x2<|di<|aY 2<|n6<|r5 (cn hlen) hb:zNn (some<|upZ a e<|mm 1000 0 l ⟨[],[(0,0)],""⟩)=some (upZ a e<|mm 1000 0 l ⟨[],[(0,0)],""⟩))];rfl
end
theorem Nd{n k:Y9}(h:n+k<=1000):Yy (n:Y9) ((n+k:Y9):Yh) 1/\(m6 (n:Y9) ((n+k:Y9):Yh) 1).toNat=k:=by
 refine⟨?_,?_⟩
 .obtain F:∀i:Yh,0<=i->i<=2000->oG i=Ye:=λi h1 h2=>by unfold oG;rw[j0];exact⟨i7<|lS iu h1,i7<|mH h2 iu⟩
  unfold Yy;rw[(by
   refine bj iu ?_;split;.rw[Int.ediv_one];simp+arith
   .lia:m6 (n:Y9) ((n+k:Y9):Yh) 1=k),F _ (by simp)<|Int.ofNat_le.mpr<|g8 (eU h) iu,F _ (Int.NonNeg.mk<|_+_+0)<|Int.ofNat_le.mpr<|bx h,F 1 (by simp)<|by simp,F k (by simp)<|Int.ofNat_le.mpr<|g8 (nF h) iu,d9 iu,F _ (Int.NonNeg.mk<|_+_+(1-sA 0)+0)<|by show _+(0:Yh)<=_;rw[oH];exact Z9.mpr<|bx h,Bool.or_true];rfl
 .unfold m6;rw[d9 iu];split;.rw[Int.ediv_one];lia
  .have:k=0:=by lia
   rw[this];rfl
def xU(l R:Ln):Y9->Yd Y9:=@Nat.rec (λq=>Yd Y9) Y8 λi r=>if mj<|kd l<|R.getD i 0then r else Y6 i
theorem yU{l R:Ln}:∀{i j:Y9},xU l R i=Y6 j->j<i/\mj (kd l<|R.getD j 0)=Yc:=by intro F;induction F with|zero=>exact@λz h=>lz h|succ i u=>
  intro j h;by_cases q:mj (kd l<|R.getD i 0)=Ye;.obtain h:=bi q h;exact⟨dI (u h).1,(u h).2⟩
  .replace h:=bc q h;obtain rfl:=c0 h;exact⟨u8 _,(lV _).mp q⟩
theorem yV{l R:Ln}:∀{i:Y9},xU l R i=Y8->∀j,j<i->mj (kd l<|R.getD j 0):=by intro F;induction F with|zero=>exactλz j h=>g9 h<|eV _|succ i u=>
  intro h j hj;by_cases q:mj (kd l<|R.getD i 0)=Ye
  .obtain h:=bi q h;by_cases e:j=i;.erw[e];exact q
   .exact u h j<|bI (dG hj) e
  .replace h:=bc q h;cases h
section
variable{x:Yg}{l:Ln}{M:Mk}{R:Ln}{c:Y9}
theorem wL{i:Y9}(h:i<R.length):R.getD i 0∈R:=by refine zJ5 v4<|zJ5 (r7 h) ?_;exact gT h
theorem Hb{i:Y9}(h:i<R.length):R[i]?=Y6 (R.getD i 0):=by refine zJ5 v4<|zJ5 (r7 h) ?_;rfl
theorem lu.lt(h:lu l M R c){i j:Y9}(u:i<j)(hj:j<R.length):R.getD i 0<R.getD j 0:=by have:=List.pairwise_iff_getElem.mp h.Z i j (iE u hj) hj u;simp only[v4,v4,r7 hj,r7<|iE u hj];exact this
theorem yR{r:Y9}(u:x.cps.toList=l):oe l r<=x.length/\x.cps.toList.drop (oe l r)=kd l r:=by refine⟨?_,by rw[u];exact by have:=@gZ Y9 (la l r)<|kd l r;rw[qU]at this;exact this⟩;have:=MW l r;rw[<-u,n8]at this;rw[<-u];exact this
theorem Wc{n i a b:Y9}{p q:Yh}(u:¬p=0)(I:R[i]?=Y6 a)(F:R[i+1]?=Y6 b)(hs:Yy (a:Y9) (b:Y9) 1):rb x R (n+1) (i+1) p q=(pq mw x [back x (m6 (a:Y9) (b:Y9) 1).toNat p]).bind λr=>match r with|some _=>rb x R n i (back x (m6 (a:Y9) (b:Y9) 1).toNat p) p|none=>Y6 (i+1,back x (m6 (a:Y9) (b:Y9) 1).toNat p,p):=by show(if p=0 then Y8 else R[i]?.bind λa=>R[i+1]?.bind λb=>if Yy (a:Y9) (b:Y9) 1=Ye then(pq mw x [back x (m6 (a:Y9) (b:Y9) 1).toNat p]).bind λr=>match r with|some _=>rb x R n i (back x (m6 (a:Y9) (b:Y9) 1).toNat p) p|none=>Y6 (i+1,back x (m6 (a:Y9) (b:Y9) 1).toNat p,p)else Y8)=_;rw[d8 u,I,u6,F,u6,d9 hs]
theorem We(S:x.cps.toList=l)(hs:x.length<300)(h:lu l M R c):∀(i n:Y9)(q:Yh),i<R.length->i<n->(∀j,xU l R i=Y6 j->rb x R n i (oe l<|R.getD i 0:Y9) q=Y6 (j+1,((oe l<|R.getD j 0:Y9):Yh),((oe l<|R.getD (j+1) 0:Y9):Yh)))/\(xU l R i=Y8->∃X,rb x R n i (oe l<|R.getD i 0:Y9) q=Y6 (0,((oe l<|R.getD 0 0:Y9):Yh),X)):=by intro V;induction V with
  |zero=>exact fun|n+1,q,_,_=>⟨λj z=>lz z,λw=>⟨q,Y7⟩⟩
  |succ i Y=>exact fun
   |0,_,_,h=>g9 h<|eV _|n+1,q,hi,hn=>by
    have N:=gJ hi;have u:=h.lt (u8 i) hi;refine bC λI=>?_;obtain hb:=h.le<|wL hi;obtain ha:=Hb N;obtain hb':=Hb hi;obtain⟨J,L⟩:=Y n (oe l<|R.getD (i+1) 0:Y9) N<|fG hn;refine I ?_;generalize R.getD i 0=a at u ha J L;generalize U:R.getD (i+1) 0=b at u hb hb' J L;refine bC λI=>?_;obtain⟨k,rfl⟩:∃k,b=a+k:=⟨b-a,(dO<|n6 u).symm⟩;obtain⟨r1,r2⟩:=Nd (n:=a) (k:=k)<|ip hs (by refine pd S<|?_;rfl) iN hb;obtain t2:=xR (kd l a) k (by have:=zW (l:=l) (r:=a)<|eU hb;exact ez hb this);obtain hback:=VW (x:=x) _ (j7 _) (by rw[qU,qU,S]) (xR l a<|eU hb).1 t2.1;refine I ?_;rw[t2.2]at hback;obtain eo:(la l a).length+(la (kd l a) k).length=oe l (a+k):=(DO l a k).symm;rw[eo]at hback;have F:back x k ((oe l<|a+k:Y9):Yh)=((oe l a:Y9):Yh):=hback;refine bC λI=>?_;obtain⟨p1,p2⟩:=yR (r:=a) S;obtain⟨m,hm,O⟩:=VM (uG p2 p1) (h.f.F<|qO l a) hs;obtain hre:=(DS (q:=x.length) Y7 (bu hs) p1<|.inl Y7).trans hm;obtain h0:¬((oe l<|a+k:Y9):Yh)=0:=λz=>by have:=wa hb<|Nat.zero_lt_of_lt u;simp_all
    have T:R.getD i 0=a:=by refine zJ5 v4<|zJ5 ha ?_;rfl
    obtain main:rb x R (n+1) (i+1) ((oe l<|a+k:Y9):Yh) q=Option.bind (Y6 m) λr=>match r with|some _=>rb x R n i ((oe l a:Y9):Yh) ((oe l<|a+k:Y9):Yh)|none=>Y6 (i+1,((oe l a:Y9):Yh),((oe l<|a+k:Y9):Yh)):=by have:=Wc (x:=x) (n:=n) (i:=i) (q:=q) h0 ha hb' r1;rw[r2,F,hre]at this;exact this
    refine I ?_;refine zJ5 main<|zJ5 (by rw[<-T];rfl:xU l R (i+1)=if mj (kd l a)then xU l R i else Y6 i)<|pd O ?_;clear main hm O hre;cases m with|none=>erw[xb];refine⟨λj z=>?_,λz=>Ct z⟩;obtain rfl:=c0 z;refine zJ5 T<|zJ5 U ?_;rfl|some m=>exact⟨J,L⟩
theorem Hc(I:x.cps.toList=l)(hs:x.length<300)(h:lu l M R c)(V:∀d∈l,d<128):(∀j,xU l R (R.length-1)=Y6 j->∃e,kG x R=Y6 ⟨(oe l<|R.getD j 0:Y9),(oe l<|R.getD (j+1) 0:Y9),upZ (oe l<|R.getD j 0) e<|mm 1000 0 (la (kd l<|R.getD j 0)<|R.getD (j+1) 0-R.getD j 0) ⟨[],[(0,0)],""⟩⟩)/\(xU l R (R.length-1)=Y8->kG x R=Y6 ⟨0,0,⟨0,[],[(0,0)],""⟩⟩):=by
 have L:l.length=x.length:=by refine pd I<|?_;rfl
 obtain⟨t,U,_⟩:=h.T;have S:0<R.length:=by erw[U];exact eG _
 obtain hsm:=h.X;have F:R.getD (R.length-1) 0=l.count 10:=by have:=h.V;rw[eP]at this;refine zJ5 v4<|zJ5 this ?_;rfl
 have N:oe l (l.count 10)=l.length:=by
  obtain h1:=zW<|j7<|l.count 10;have h2:kd l (l.count 10)=[]:=eO λz=>by have:=YZ.mpr<|(h.f.F<|qO l _).I z;simp_all
  have:=i6 Ys<|qU l<|l.count 10;rw[h2,eY]at this;exact this
 obtain⟨T,s2⟩:=We I hs h (R.length-1) 1000 0 (by lia) (by lia);rw[F,N,L]at T s2;have e0:kG x R=(rb x R 1000 (R.length-1) (x.length:Y9) 0).bind λr=>if r.1=0 then(if r.2.1=0 then qq x r.2.1 r.2.1 else Y8)else qq x r.2.1 r.2.2:=by
  unfold kG;rw[d8];rintro(z|z);.exact g9 z<|eZ S
  .exact iq hs L hsm z
 erw[e0];refine⟨λj hj=>?_,λhj=>?_⟩
 .rw[T j hj,u6];obtain⟨j1,Z⟩:=yU hj;have J:=h.lt (u8 j) (by lia);have O:=h.le<|wL (R:=R) (i:=j+1) (by lia);generalize R.getD j 0=a at J;generalize R.getD (j+1) 0=b at J O;obtain⟨k,rfl⟩:∃k,b=a+k:=⟨b-a,by lia⟩;obtain t2:=xR (kd l a) k (by have:=zW (l:=l) (r:=a)<|eU O;exact ez O this);have u:x.cps.toList=la l a++(la (kd l a) k++kd (kd l a) k):=by rw[qU,qU,I]
  obtain hA:=W1 u;obtain hn:qa<|la (kd l a) k:=λd hd=>by
   rcases t2.1 with z|⟨q,z⟩;.rw[z]at hd;cases hd
   .rw[z,gN]at hd;exact(c0 hd).symm
  obtain hsub:∀d∈la (kd l a) k,d<128:=λd hd=>V d (by refine pd I<|zJ5 u ?_;exact gR _<|sE _ hd);obtain eo:(la l a).length+(la (kd l a) k).length=oe l (a+k):=(DO l a k).symm;rw[eo]at hA;obtain⟨e,X,_⟩:=Nc (a:=oe l a) hs hA hn hsub;refine⟨e,?_⟩;rw[dD];exact X
 .obtain⟨q',Y⟩:=s2 hj;rw[Y,(by rw[U];show oe l 0=0;unfold oe;rw[GZ];rfl:oe l (R.getD 0 0)=0),u6];obtain e:qq x 0 0=Y6 ⟨0,0,⟨0,[],[(0,0)],""⟩⟩:=by unfold qq uY;refine ?_;rfl
  exact(d9 Y7).trans<|(d9 Y7).trans e
end
theorem Hd{e:Y9}(u:e∈[34,39,92,10,35])(c:Y9):ko c=e↔c=e:=by
 constructor
 .intro h;by_cases h1:c=40\/c=123\/c=91;.replace h:=bi h1 h;subst h;exact g9 u iu
  .replace h:=bc h1 h;by_cases h2:c=41\/c=125\/c=93;.replace h:=bi h2 h;subst h;exact g9 u iu
   .replace h:=bc h2 h;by_cases h3:c=34\/c=39\/c=92\/c=10\/c=35;.obtain h:=bi h3 h;exact h
    .replace h:=bc h3 h;subst h;exact g9 u iu
 .rintro rfl;revert c;decide
theorem DV{q:Y9}(u:q=34\/q=39):∀(j:Y9){l:Ln},(l.map ko).take j=YG j q↔l.take j=YG j q:=by intro I;induction I with|zero=>exact@λz=>⟨λz=>Y7,λz=>Y7⟩|succ j F=>exact@fun|[]=>⟨λh=>AZ h,λh=>AZ h⟩|c::l=>by simp only[gH,fO,fO,List.replicate_succ,tA,tA,Hd (e:=q) (by rcases u with rfl|rfl<;>decide) c,F]
theorem tE:∀{r:Ln},10∈r->r.drop ((r.takeWhile (·!=10)).length+1)=kd r 1:=by intro F;induction F with|nil=>exactλh=>tq h|cons c r u=>
  intro h;rw[v6];by_cases e:c=10;.subst e;show r=kd r 0;rw[xC]
  .rw[d9<|by simpa using e,jI e];exact u<|(Yn.mp h).resolve_left<|gP e
theorem Nf:∀c,c<128->(uy c->ko c=40)/\(cls c->ko c=41):=jg
theorem Wf{l:Ln}{m:Mk}:kg .a (40::l) m=kg .a l {m with a:=m.a+1}:=by erw[tD];exact bk iu<|bk iu<|bj Y7 Y7
theorem Wg{l:Ln}{m:Mk}:kg .a (41::l) m=kg .a l {m with a:=m.a-1}:=by erw[tD];exact bk iu<|bk iu<|bk iu<|bj Y7 Y7
theorem Wi{d:Y9}{l:Ln}{m:Mk}:kg .a (92::d::l) m=kg .a l (if d=10 then{m with b:=m.b+1,c:=if l=[]then 1 else m.c}else m):=by erw[tD];exact bk iu<|bk iu<|bk iu<|bk iu<|bk iu<|bk iu<|bj Y7 Y7
theorem Hf{c:Y9}{l:Ln}{m:Mk}(h:c=34\/c=39):kg .a (c::l) m=if(c::l).take 3=[c,c,c]then kg (.b c 2 m.b) (l.drop 2) m else kg (.b c 0 m.b) l m:=by rcases h with rfl|rfl<;>exact zJ5 tD<|zJ5 xb<|zJ5 xb<|zJ5 xb<|zJ5 xb<|rfl
section
variable{M m:Mk}{c f:Y9}{l:Ln}
def AT(M:Mk):Prop:=M.c≠2/\M.c≠3
theorem Wj:∀(l:Ln)(m:Mk),(∀d∈l,d<128)->∃m',kg .a (l.map ko) m=kg .a ((l.dropWhile oj).map ko) m'/\m'.a=m.a:=by intro I;induction I with|nil=>exactλm q=>⟨m,Y7,Y7⟩|cons d l F=>
  intro m h;erw[w9];by_cases u:oj d=Ye
  .refine zJ5 (d9 u)<|zJ5 gH ?_;rcases(by decide+kernel:∀c,c<128->oj c=Ye->ko c=120\/c=10) d (h d<|.head _) u with e|e;.exact am (F m λz hz=>h z<|.tail _ hz) λm' e1 e2=>⟨m',by exact zJ5 e<|zJ5 e1 Y7,e2⟩
   .exact am (F m.u λz hz=>h z<|.tail _ hz) λm' e1 e2=>⟨m',by exact zJ5 ((jO d).mpr e)<|zJ5 e1 Y7,e2⟩
  .erw[d8 u];exact⟨m,Y7,Y7⟩
theorem DW{q w:Y9}(h:kg (.b q w f) [] m=Y6 M)(u:AT M):False:=by
 obtain rfl:=c0 h;obtain⟨h1,h2⟩:=u;by_cases z:m.b=f+1;.exact h1<|d9 z
 .exact h2<|d8 z
theorem Wk(hc:c=34\/c=39)(S:AT M):∀(n:Y9)(l:Ln)(m:Mk),l.length<=n->kg (.b c 2 f) (l.map ko) m=Y6 M->∃m',kg .a ((l.drop<|mo c Yc l).map ko) m'=Y6 M/\m'.a=m.a:=by intro n;induction n with
 |zero=>intro l m I h;cases l with|nil=>exact(DW h S).elim|cons=>exact g9 I<|dZ _
 |succ n T=>
  intro l m I h;rcases l with _|⟨d,l⟩;.exact(DW h S).elim
  have I:=u7 I;have L:c≠10:=by rcases hc with rfl|rfl<;>decide
  have N:c≠92:=by rcases hc with rfl|rfl<;>decide
  have O:ko c=c:=by rcases hc with rfl|rfl<;>rfl
  have u:mo c Yc (d::l)=mo c Yc l+1->∀m1:Mk,m1.a=m.a->kg (.b c 2 f) (l.map ko) m1=Y6 M->∃m',kg .a (((d::l).drop<|mo c Yc<|d::l).map ko) m'=Y6 M/\m'.a=m.a:=λe m1 hm h=>am (T l m1 I h) λm' e1 e2=>⟨m',by rw[e];exact e1,e2.trans hm⟩;rw[gH,wv]at h;by_cases h1:ko d=120
  .replace h:=bi h1 h;refine u (DH ?_ ?_) m Y7 h;.rintro rfl;rcases hc with rfl|rfl<;>cases h1
   .rintro rfl;cases h1
  replace h:=bc h1 h;have h3:=DV hc 3 (l:=d::l);by_cases h2:(d::l).take 3=[c,c,c];.replace h:=bi (h3.mpr h2) h;have U:=r4<|h2;refine⟨m,?_,Y7⟩;rw[GS,d9 U.1,d9 U.2];rw[<-mF]at h;exact h
  replace h:=bc (λz=>h2<|h3.mp z) h;by_cases F:d=10;.obtain h:=bc iu<|bi ((jO d).mpr F) h;exact u (DH (by rw[F];exact L.symm)<|by rw[F];decide) {m with b:=m.b+1} Y7 h
  replace h:=bc (λz=>F<|(jO d).mp z) h;by_cases J:d=92;.clear F h2 h3 h1 u O L;subst J;replace h:=bi Y7 h;cases l with|nil=>cases h|cons e l=>
    refine am (T l _ (t9<|u7 I) h) λm' e1 e2=>⟨m',by rw[Mz N];exact e1,e2.trans ?_⟩;by_cases z:ko e=10;.rw[d9 z]
    .rw[d8 z]
  replace h:=bc (λz=>J<|(Hd iu d).mp z) h;refine u ?_ m Y7 h;by_cases e:d=c;.clear h J F h3 h1 u O N L I hc S;subst e;rw[GT,d8 λz=>h2<|i6 (d::·) z]
  .exact DH e J
theorem Wl(hc:c=34\/c=39)(S:AT M):∀(n:Y9)(l:Ln)(m:Mk),l.length<=n->kg (.b c 0 f) (l.map ko) m=Y6 M->∃m',kg .a ((l.drop<|nq c Yc l).map ko) m'=Y6 M/\m'.a=m.a:=by intro n;induction n with
 |zero=>intro l m F h;cases l with|nil=>exact(DW h S).elim|cons=>exact g9 F<|dZ _
 |succ n T=>
  intro l m F h;rcases l with _|⟨d,l⟩;.exact(DW h S).elim
  have F:=u7 F;have N:c≠10:=by rcases hc with rfl|rfl<;>decide
  have L:c≠92:=by rcases hc with rfl|rfl<;>decide
  have O:ko c=c:=by rcases hc with rfl|rfl<;>rfl
  have u:nq c Yc (d::l)=nq c Yc l+1->∀m1:Mk,m1.a=m.a->kg (.b c 0 f) (l.map ko) m1=Y6 M->∃m',kg .a (((d::l).drop<|nq c Yc<|d::l).map ko) m'=Y6 M/\m'.a=m.a:=λe m1 hm h=>am (T l m1 F h) λm' e1 e2=>⟨m',by erw[e];exact e1,e2.trans hm⟩;rw[gH,wv]at h;by_cases h1:ko d=120
  .replace h:=bi h1 h;refine u (GU ?_ ?_ ?_) m Y7 h;.rintro rfl;rcases hc with rfl|rfl<;>cases h1
   .rintro rfl;cases h1
   .rintro rfl;cases h1
  replace h:=bc h1 h;have h3:=DV hc 1 (l:=d::l).trans ⟨λz=>(r4 z).1,λz=>by erw[z];rfl⟩;by_cases h2:d=c;.replace h:=bi (h3.mpr h2) h;clear h3 h1 u O L N F hc S;subst h2;exact⟨m,by erw[MA];exact h,Y7⟩
  replace h:=bc (λz=>h2<|h3.mp z) h;by_cases I:d=10;.clear h2 h3 h1 u O L F hc S;subst I;refine⟨m,?_,Y7⟩;erw[MB N];exact DR.trans h
  replace h:=bc (λz=>I<|(jO d).mp z) h;by_cases J:d=92;.clear I h2 h3 h1 u O N;subst J;replace h:=bi Y7 h;cases l with|nil=>cases h|cons e l=>
    refine am (T l _ (t9<|u7 F) h) λm' e1 e2=>⟨m',by erw[MC L];exact e1,e2.trans ?_⟩;by_cases z:ko e=10;.rw[d9 z]
    .rw[d8 z]
  obtain h:=bc (λz=>J<|(Hd iu d).mp z) h;exact u (GU h2 J I) m Y7 h
theorem Wm(hc:c=34\/c=39)(F:AT M)(h:kg .a ((c::l).map ko) m=Y6 M):∃m',kg .a (((c::l).drop<|ol<|c::l).map ko) m'=Y6 M/\m'.a=m.a:=by
 rw[gH,(by rcases hc with rfl|rfl<;>rfl:ko c=c),Hf hc]at h;have u:(c::l.map ko).take 3=[c,c,c]↔l.take 2=[c,c]:=⟨λz=>(DV hc 2).mp (r4 z).2,λz=>i6 (c::·)<|(DV hc 2).mpr z⟩;obtain eN:ol (c::l)=if l.take 2=[c,c]then mo c Yc (l.drop 2)+3 else nq c Yc l+1:=Y7;by_cases q:l.take 2=[c,c];.rw[d9<|u.mpr q,<-mF]at h;refine am (Wk hc F _ (l.drop 2) m (j7 _) h) λm' e1 e2=>⟨m',?_,e2⟩;rw[eN,d9 q,<-e1,lT];show kg .a ((l.drop<|mo c Yc (l.drop 2)+2).map ko) m'=_;rw[v3]
 .rw[d8 λz=>q<|u.mp z]at h;refine am (Wl hc F _ l m (j7 _) h) λm' e1 e2=>⟨m',?_,e2⟩;rw[eN,d8 q];exact e1
theorem Hg(hM:AT M):∀(n p:Y9)(l:Ln)(z:Z)(m:Mk),l.length<n->qa l->(∀d∈l,d<128)->kg .a (l.map ko) m=Y6 M->z.a.length=m.a->(mm n p l z).a.length=M.a:=by intro zz;induction zz with|zero=>exactλw w w w h w w w w=>g9 h<|eV _|succ n ih=>intro p l z m hl hn Y h hz;refine am (Wj l m Y) λm1 e1 e2=>?_;replace h:=e1.symm.trans h;have u:z.a.length=m1.a:=hz.trans e2.symm;cases hc:l.dropWhile oj with|nil=>replace h:=hc▸h;rw[Nb hc];cases h;exact u|cons c r=>
   replace h:=hc▸h;rw[Ha hc];have L:c::r<:+l:=hc▸eF _;obtain hnc:=hn.F L;have S:=Y c<|L.mem<|.head _;have V:=wb c S<|kZ hc;obtain hlen:=L.length_le;have go:∀{m2:Mk},kg .a (((c::r).drop<|rj c r).map ko) m2=Y6 M->(ua (p+(l.takeWhile oj).length) c r {z with b:=xN (l.takeWhile oj) z.b}).a.length=m2.a->(mm n (p+(l.takeWhile oj).length+rj c r) ((c::r).drop<|rj c r)<|ua (p+(l.takeWhile oj).length) c r {z with b:=xN (l.takeWhile oj) z.b}).a.length=M.a:=λh1 h2=>ih _ _ _ _ (by rw[r9,m4];exact i9 (iO (eG _)<|H7 (c:=c) (r:=r))<|g8 hlen<|dG hl) (hnc.F<|dQ _ _) (λd hd=>Y d<|L.mem<|fC hd) h1 h2;by_cases J:uy c=Ye
   .rw[gH,(Nf c S).1 J,Wf]at h;obtain I:rj c r=1:=d9<|.inl J;have T:∀{p:Y9}{z:Z},(ua p c r z).a=z.a++[p]:=λ{p z}=>by unfold ua;rw[d9 J]
    refine go (by rw[I];exact h) ?_;rw[T,j9];exact i6 (·+1) u
   by_cases N:cls c=Ye
   .rw[gH,(Nf c S).2 N,Wg]at h;have I:rj c r=1:=d9<|.inr N;have T:∀{p:Y9}{z:Z},(ua p c r z).a=z.a.dropLast:=λ{p z}=>by unfold ua;rw[d8 J,d9 N]
    refine go (by rw[I];exact h) ?_;rw[T,lO];exact i6 (·-1) u
   have U:¬(uy c=Ye\/cls c=Ye):=λz=>z.elim J N;have T:∀{p:Y9}{z:Z},(ua p c r z).a=z.a:=λ{p z}=>by
    unfold ua;rw[d8 J,d8 N];by_cases F:c=34\/c=39;.rw[d9 F]
    rw[d8 F];by_cases O:c=35;.rw[d9 O]
    rw[d8 O]
   by_cases F:c=34\/c=39;.refine am (Wm F hM h) λm2 f1 f2=>?_;obtain I:rj c r=ol (c::r):=(d8 U).trans<|d9 F;refine go (m2:=m2) (by rw[I];exact f1) ?_;rw[T];exact u.trans f2.symm
   have X:=hnc.J (by rintro rfl;rcases V with z|z|z|z|z|z<;>cases z);by_cases O:c=35;.subst O;obtain hm:=(hnc.F<|u3 35 r).I X;obtain I:rj 35 r=(r.takeWhile (·!=10)).length+2:=(d8 U).trans<|(d8 F).trans<|d9 Y7;have h:kg .a (35::r.map ko) m1=Y6 M:=h;rw[N3<|List.mem_map.mpr ⟨10,hm,Y7⟩,N2 hm,DR]at h;refine go (m2:=m1.u) (by rw[I,(by exact tE hm:(35::r).drop ((r.takeWhile (·!=10)).length+2)=kd r 1)];exact h) ?_;exact u
   obtain k5:c=92:=by
    rcases V with z|z|z|z|z|z;.exact g9 z J
    .exact g9 z N
    .exact g9 (.inl z) F
    .exact g9 (.inr z) F
    .exact g9 z O
    .exact z
   subst k5;refine cq (gK X) λd t a0=>?_;subst a0;obtain h:=Wi.symm.trans h;refine go (by exact h) ?_;by_cases q:ko d=10;.rw[d9 q];exact u
   .rw[d8 q];exact u
end
theorem Ng:∀c,c<128->u9 " \t" ⟨#[c]⟩=mf c:=jg
section
variable{x:Yg}{a b p n:Y9}{l:Ln}
theorem y0{j:Yh}:kR x (n+1) j=(lc x j).bind λc=>if u9 " \t" c then kR x n (j+1)else Y6 j:=Y7
theorem Nh(hs:x.length<=1000):∀(n p:Y9)(l:Ln),l.length<n->Re.At x.cps b p l->(∀d∈l,d<128)->10∈l->kR x n (p:Y9)=Y6 ((p+(l.takeWhile mf).length:Y9):Yh):=by intro F;induction F with|zero=>exactλq q h q q q=>g9 h<|eV _|succ n u=>exact fun
   |p,[],_,_,_,h=>tq h|p,c::l,hl,h,h7,hm=>by
    refine y0.trans ?_;rw[kI hs h,u6,Ng c<|h7 c<|.head _,v6];by_cases e:mf c=Ye;·rw[d9 e,d9 e];have:=u (p+1) l (fG hl) h.J.2.2 (λd hd=>h7 d<|.tail _ hd)<|(Yn.mp hm).resolve_left<|gP (BA e).2.1;rw[m4,v3 _ 1,<-m3];exact this
    ·rw[d8 e,d8 e];rfl
theorem Wn(hs:x.length<=1000):∀(n p:Y9)(l:Ln),l.length<n->Re.At x.cps b p l->(∀d∈l,d<128)->Cb x (b:Y9) n (p:Y9)=Y6 ((p+(l.takeWhile mf).length:Y9):Yh):=by intro F;induction F with|zero=>exactλq q h q q=>g9 h<|eV _|succ n u=>exact fun
   |p,[],hl,h,h7=>by rw[h.L];refine bk (sM _) ?_;rfl|p,c::l,hl,h,h7=>by
    show(if((p:Y9):Yh)<((b:Y9):Yh)then(lc x (p:Y9)).bind λc=>if u9 " \t" c=Ye then Cb x (b:Y9) n ((p:Y9)+1)else Y6 ((p:Y9):Yh)else _)=_;rw[d9<|Int.ofNat_lt.mpr h.J.1,kI hs h,u6,Ng c<|h7 c<|.head _,v6];by_cases e:mf c=Ye;·rw[d9 e,d9 e];have:=u (p+1) l (fG hl) h.J.2.2<|λd hd=>h7 d<|.tail _ hd;rw[m4,v3 _ 1,<-m3];exact this
    ·rw[d8 e,d8 e];rfl
theorem Ni(hs:x.length<300)(h:Re.At x.cps b a l)(u:∀d∈l,d<128):Cd x (a:Y9) (b:Y9)=Y6 ⟨(l.takeWhile mf).toArray⟩:=by obtain hlen:=h.O;obtain hb:b<=x.length:=h.a;unfold Cd;rw[Wn (bu hs) 1000 a l (r5 (g8 (cn hlen) hb)<|bx hs) h u,mC,N7<|g8 h.le hb];congr 2;obtain h1:(x.cps.toList.drop a).take (b-a)=l:=h.c;rw[<-(by rw[List.take_take,w7<|et hlen<|DG (f:=mf) l]:((x.cps.toList.drop a).take<|b-a).take (l.takeWhile mf).length=(x.cps.toList.drop a).take (l.takeWhile mf).length),h1];have:=@oT _ (l.takeWhile mf)<|l.dropWhile mf;rw[r8]at this;rw[this]
def Hh:Y9->Y9->Y9->Ln->Yd (Yd<|Nat×Y9):=nr (λq q q=>Y8) λf i j l=>if l=[]then Y6 Y8 else match jY l with|some k=>Y6<|some (i,j+k-1)|none=>f (j+(l.takeWhile (·!=10)).length+1) (j+(l.takeWhile (·!=10)).length+1)<|kd l 1
theorem Nj{k:Y9}(h:jY l=Y6 k):0<k/\k<=l.length:=by
 refine jh h λc h1 h2=>?_;by_cases e:By c=Ye
 .replace h2:=bi e h2;obtain rfl:=c0 h2;refine⟨eG _,?_⟩;obtain h3:l.dropWhile mf≠[]:=λz=>by rw[z]at h1;cases h1
  obtain h4:=i6 Ys<|@r8 _ mf l;rw[j9]at h4;have:=YT.mpr h3;exact h4▸i8 this _
 .replace h2:=bc e h2;cases h2
theorem Wo:∀(n i j:Y9)(l:Ln),l.length<n->qa l->∃r,Hh n i j l=Y6 r/\∀m,r=Y6 m->i<=j->m.1<=m.2/\m.2<j+l.length:=by intro J;induction J with|zero=>exactλq q q h q=>g9 h<|eV _|succ n O=>
  intro i j l T I;show∃r,(if l=[]then Y6 Y8 else match jY l with|some k=>Y6<|some (i,j+k-1)|none=>Hh n (j+(l.takeWhile (·!=10)).length+1) (j+(l.takeWhile (·!=10)).length+1)<|kd l 1)=Y6 r/\_;by_cases e:l=[];.erw[d9 e];exact⟨Y8,Y7,λm z=>lz z⟩
  erw[d8 e];cases hk:jY l with|some k=>obtain⟨u,S⟩:=Nj hk;refine⟨Y6 (i,j+k-1),Y7,λm z F=>?_⟩;obtain rfl:=c0 z;exact⟨fY<|dS F u,by rw[mY u];exact oA (i9 (iO u iu) S) j⟩|none=>obtain hm:=I.I e;obtain hlen:=i6 Ys<|tE hm;rw[r9]at hlen;refine am (uN hm) λt L q=>?_;obtain h1:=i6 Ys L;rw[j9,m4]at h1;refine am (O (j+(l.takeWhile (·!=10)).length+1) (j+(l.takeWhile (·!=10)).length+1) (kd l 1) (gq T hlen h1)<|I.F<|qO l 1) λr r1 r2=>⟨r,r1,λm z q=>?_⟩;obtain⟨r3,N⟩:=r2 m z<|j7 _;exact⟨r3,gu hlen h1 N⟩
theorem Nk(hs:x.length<300):∀(n i j:Y9)(l:Ln)(r:Yd<|Nat×Y9),Re.At x.cps x.length (a+j) l->qa l->Hh n i j l=Y6 r->Bw x n ((a+i:Y9):Yh) ((a+j:Y9):Yh)=Y6 (r.map λm=>(((a+m.1:Y9):Yh),((a+m.2:Y9):Yh))):=by intro L;induction L with|zero=>exactλz z z z z z h=>lz h|succ n J=>
  intro i j l r u F h;obtain hlen:=u.O;show(if((a+j:Y9):Yh)<((x.length:Y9):Yh)then(pq pk x [((a+j:Y9):Yh)]).bind λr=>match r with|some m=>Y6<|some (((a+i:Y9):Yh),((m.2:Y9):Yh)-1)|none=>Bw x n (gE x rz ((a+j:Y9):Yh)+1)<|gE x rz ((a+j:Y9):Yh)+1 else Y6 Y8)=_;by_cases e:l=[];.replace h:=bi e h;obtain rfl:=c0 h;rw[e]at hlen;refine bk (by rw[W_];exact YR.mpr<|eJ hlen.symm) ?_;rfl
  replace h:=bc e h;rw[d9<|Int.ofNat_lt.mpr<|hlen▸dH (YT.mpr e),(DS (q:=x.length) Y7 (bu hs) u.le<|.inl Y7).trans<|Vy u<|g8 hs iu];cases hk:jY l with|some k=>rw[hk]at h;obtain rfl:=c0 h;have:=(Nj hk).1;show Y6 (Y6 (((a+i:Y9):Yh),((a+j+k:Y9):Yh)-1))=Y6 (Y6 (((a+i:Y9):Yh),((a+(j+k-1):Y9):Yh)));rw[(by rw[ck<|pC _ this,m3,mY<|pC j this]:((a+j+k:Y9):Yh)-1=((a+(j+k-1):Y9):Yh))]|none=>rw[hk]at h;obtain hm:=F.I e;rw[(by rw[N6 u hm];simp+arith:gE x rz ((a+j:Y9):Yh)+1=((a+(j+(l.takeWhile (·!=10)).length+1):Y9):Yh))];refine am (uN hm) λt I z=>?_;obtain h1:=i6 Ys I;obtain hA2:=At.skip ((l.takeWhile (·!=10)).length+1) u (by simp[h1]);rw[tE hm]at hA2;exact J _ _ _ r (by rw[show a+(j+(l.takeWhile (·!=10)).length+1)=a+j+((l.takeWhile (·!=10)).length+1)by exact lF<|m3 _ _<|_+1];exact hA2) (F.F<|qO l 1) h
end
structure rd(x:Yg)(a:Y9)(B:Ln):Prop where
 b:x.length<300
 le:a<=x.length
 e:x.cps.toList.drop a=B
 g:nt<|x.cps.toList.take a
 f:∀d∈B,d<128
section
variable{x:Yg}{a:Y9}{B:Ln}
theorem rd.u(h:rd x a B){j:Y9}(hj:j<=B.length):Re.At x.cps x.length (a+j)<|B.drop j:=At.skip j (uG h.e h.le) hj
theorem rd.I(h:rd x a B):a+B.length=x.length:=by have:=i6 Ys h.e;simp only[r9,n8]at this;obtain h2:x.cps.size=x.length:=Y7;have:=h.le;lia
theorem rd.F(h:rd x a B){i t:Y9}(hi:i<=B.length):zP x ((a+i:Y9):Yh) ((a+i+t:Y9):Yh)=⟨((B.drop i).take t).toArray⟩:=by have:=h.I;exact zJ5 (N7<|this▸i8 hi _)<|pd h.e<|zJ5 lT Y7
theorem Wp{o s:Yh}{m:Yh×Yh}(h1:na x o+1=s)(h2:Bw x 1000 s (o+1)=Y6 (Y6 m)):vO x o=Y6 (zP x m.1 m.2,Yc):=by unfold vO;refine zJ5 h1<|zJ5 h2 ?_;rfl
theorem Wq(J:B.length<300)(I:qa B){o:Y9}(F:o<B.length):∃pre N,(∀d∈pre.cps.toList,d∈B)/\pre.length<=B.length/\∀x a,rd x a B->vO x ((a+o:Y9):Yh)=Y6 (pre,N):=by
 refine bp (H5 _ (B.take o)<|j7 _) λS1 C e h1 h2=>?_;have u:S1.length+C.length=o:=by have:=i6 Ys e;rw[dF,j9]at this;exact this.symm.trans<|w7<|n6 F
 obtain hB:B=S1++(C++B.drop o):=by
  conv=>lhs;rw[<-eW o B,e]
  rw[v5]
 have L:∀x a,rd x a B->na x ((a+o:Y9):Yh)+1=((a+S1.length:Y9):Yh):=λx a h=>by
  have:=N4 (by
   conv=>lhs;rw[<-eW a x.cps.toList,h.e,hB]
   rw[v5,<-hB]) (h.g.L h1) h2;rw[j9,(by rw[dF,n8];exact w7 h.le:(x.cps.toList.take a).length=a),m3,u]at this;exact this
 obtain hd1:B.drop S1.length=C++B.drop o:=by
  conv=>lhs;rw[hB]
  exact gZ
 obtain hne1:B.drop S1.length≠[]:=λz=>by have:=i6 Ys z;rw[r9]at this;exact gv F u this
 refine am (Wo 1000 S1.length (o+1) (B.drop<|o+1) (by rw[r9];exact dj J)<|I.F<|dQ _ _) λr r1 r2=>?_;cases r with|some m=>
  obtain⟨m1,m2⟩:=r2 m Y7 (by exact n7<|lR u);rw[r9]at m2;refine⟨⟨((B.drop m.1).take<|m.2-m.1).toArray⟩,Yc,λd hd=>?_,?_,λx a h=>?_⟩;.exact fC<|gX hd
  .show((B.drop m.1).take<|m.2-m.1).toArray.size<=_;rw[dT,dF,r9];exact g8 (fR _ _)<|iY _ _
  .obtain hi:=Nk h.b 1000 _ _ _ _ (h.u<|mP F) (I.F<|dQ _ _) r1;rw[Wp (L x a h) hi];have:=h.F (i:=m.1) (t:=m.2-m.1) (by exact g8 m1<|n6<|mG m2<|dO F);rw[show a+m.1+(m.2-m.1)=a+m.2 by exact by rw[m3,dO m1]]at this;exact i6 (λz=>Y6 (z,Yc)) this|none=>
  refine⟨⟨((B.drop S1.length).takeWhile mf).toArray⟩,Ye,λd hd=>?_,?_,λx a h=>?_⟩;.exact fC<|(mT _).subset hd
  .show((B.drop S1.length).takeWhile mf).toArray.size<=_;have:=DG (f:=mf)<|B.drop S1.length;rw[r9]at this;exact g8 this<|iY _ _
  .obtain hi:=Nk h.b 1000 _ _ _ _ (h.u<|mP F) (I.F<|dQ _ _) r1;rw[(by unfold vO;refine zJ5 (L x a h)<|zJ5 hi<|zJ5 (Nh (by exact bu h.b) 1000 _ _ (by rw[r9];exact dj J) (h.u<|by exact ey F u) (λd hd=>h.f d<|fC hd)<|(I.F<|dQ S1.length B).I hne1) ?_;rfl:vO x (↑(a+o))=Y6 (zP x ↑(a+S1.length)<|↑(a+S1.length+(List.takeWhile Mine.Lake.Re.mf<|List.drop S1.length B).length),Ye)),h.F<|by exact ey F u];have:=@oT _ ((B.drop S1.length).takeWhile mf)<|(B.drop S1.length).dropWhile mf;rw[r8]at this;rw[this]
end
theorem Wr{n:Y9}(I:0<n):∀(l:Ln)(u:Y9),(ql n u l).length<=n*l.length:=by intro J;induction J with|nil=>exactλq=>v8 _|cons c l F=>
  intro u;show(if c=9 then YG (n-u%n) 32++ql n (u+(n-u%n)) l else c::ql n (if c=10\/c=13 then 0 else u+1) l).length<=n*(l.length+1);by_cases h:c=9;.rw[d9 h,j9,iF,v3];exact dS (F _)<|iY _ _
  .rw[d8 h,m4];exact dS (F _) I
theorem Ws{n:Y9}:∀(l:Ln)(u:Y9),(∀d∈l,d<128)->∀d∈ql n u l,d<128:=by intro I;induction I with|nil=>exactλw w w h=>tq h|cons c l F=>
  intro u h d hd;obtain hd:d∈if c=9 then YG (n-u%n) 32++ql n (u+(n-u%n)) l else c::ql n (if c=10\/c=13 then 0 else u+1) l:=hd;obtain h':∀d∈l,d<128:=λd hd=>h d<|.tail _ hd;by_cases q:c=9
  .rw[d9 q]at hd;rcases Yz.mp hd with z|z;.rw[mE z];decide
   .exact F _ h' d z
  .rw[d8 q]at hd;rcases Yn.mp hd with z|z;.rw[z];exact h c<|.head _
   .exact F _ h' d z
theorem Nl{y:Yg}(F:y.length<=300)(u:∀d∈y.cps.toList,d<128):pa y 8:=by
 obtain h1:(mh (Int.toNat 8) y).length<=8*y.length:=by show(ql 8 0 y.cps.toList).toArray.size<=_;exact Wr iu _ _
 unfold pa;rw[i7 iu,i7 iu,i7<|g8 h1<|bx<|aY 8 F,uR];rfl;exact Ws _ _ u
def yc(c:Y9):Yj:=c==61||c==60||c==62||c==33
theorem Nm:∀c,c<128->u9 "=<>!" ⟨#[c]⟩=yc c:=jg
def pv(B:Ln):Y9->Y9|0=>10|k+1=>B.getD k 0
def x9(B:Ln):Y9->Y9->Ln->Y9->Yd (Y9×Yj):=nr (λq q q=>Y8) λf k l lev=>match l with|[]=>Y6 (k,Yc)|c::t=>if uy c then f (k+1) t (lev+1)else if cls c then f (k+1) t<|lev-1 else if c=34\/c=39 then f (k+ol (c::t)) ((c::t).drop<|ol<|c::t) lev else if c=35 then Y6 (k,Yc)else if(lev=0/\c=61)/\yc (pv B k)=Yc/\t.head?≠Y6 61 then Y6 (k,Ye)else f (k+1) t lev
theorem Wt{B:Ln}:∀(n k lev:Y9)(l:Ln),l.length<n->∃r,x9 B n k l lev=Y6 r/\k<=r.1/\(r.2->r.1<k+l.length):=by intro U;induction U with|zero=>exactλq q q h=>g9 h<|eV _|succ n O=>exact fun
   |k,lev,[],_=>⟨_,Y7,j7 _,λz=>pz z⟩|k,lev,c::t,F=>by
    have F:=fG F;have one:∀u,∃r,x9 B n (k+1) t u=Y6 r/\k<=r.1/\(r.2=Ye->r.1<k+(c::t).length):=λu=>by obtain⟨r,e1,e2,I⟩:=O (k+1) u t F;exact⟨r,e1,t9 e2,λz=>mG (I z)<|m5 k 1 _⟩
    show∃r,(if uy c then x9 B n (k+1) t (lev+1)else if cls c then x9 B n (k+1) t<|lev-1 else if c=34\/c=39 then x9 B n (k+ol (c::t)) ((c::t).drop<|ol<|c::t) lev else if c=35 then Y6 (k,Yc)else if(lev=0/\c=61)/\yc (pv B k)=Yc/\t.head?≠Y6 61 then Y6 (k,Ye)else x9 B n (k+1) t lev)=Y6 r/\_;by_cases L:uy c=Ye;·erw[d9 L];exact one _
    erw[d8 L];by_cases S:cls c=Ye;·erw[d9 S];exact one _
    erw[d8 S];by_cases N:c=34\/c=39
    · erw[d9 N];obtain h3:((c::t).drop<|ol<|c::t).length=t.length+1-ol (c::t):=by exact zJ5 r9<|rfl
      obtain⟨r,e1,e2,I⟩:=O (k+ol (c::t)) lev ((c::t).drop<|ol<|c::t)<|(by rw[h3];exact i9 (iO (eG t.length)<|Na (c:=c) (r:=t)) F);exact⟨r,e1,eU e2,λz=>mG (I z)<|by rw[h3,m3];exact i6 (k+·)<|dO<|H9 (c:=c) (r:=t)⟩
    erw[d8 N];by_cases J:c=35;·erw[d9 J];exact⟨_,Y7,j7 _,λz=>pz z⟩
    erw[d8 J];by_cases T:(lev=0/\c=61)/\yc (pv B k)=Yc/\t.head?≠Y6 61;·erw[d9 T];exact⟨_,Y7,j7 _,λq=>by refine ?_;exact w6<|m7 _ _⟩
    ·erw[d8 T];exact one _
section
variable{x:Yg}{a:Y9}{B:Ln}
theorem At.pre{t:Yp Y9}{q p:Y9}{l:Ln}(h:Re.At t q p l){j:Y9}(hj:j<=l.length):Re.At t (p+j) p<|l.take j:=by obtain hl:=h.O;refine⟨?_,m7 _ _,by have:=h.a;exact g8 (i8 hj _)<|by rw[hl];exact this⟩;have:=h.c;unfold xh at this|-;rw[<-this,List.take_take,dD,w7<|et hl hj]
theorem Wu{A:Ln}(h:nt A)(u:A≠[]):A.getLast?=Y6 10:=by obtain⟨q,rfl⟩:=h.resolve_left u;exact gN
theorem Wv:∀l:Ln,10∉l.takeWhile mf:=by intro F;induction F with|nil=>exactλh=>tq h|cons c l u=>
  intro h;rw[v6]at h;by_cases e:mf c=Ye;.rw[d9 e]at h;exact(Yn.mp h).elim (λz=>(BA e).2.1 z.symm)<|u
  .rw[d8 e]at h;exact tq h
theorem Ww{A t:Ln}:(A++10::t).take (A.length+1)=A++[10]:=by rw[show A++10::t=A++[10]++t by rw[v5];rfl,show A.length+1=(A++[10]).length by rw[j9];rfl,oT]
theorem Wx(h:rd x a B){k:Y9}(hk:k<B.length):(if((a+k:Y9):Yh)=0 then Y6 Ye else(lc x<|((a+k:Y9):Yh)-1).map λc=>!ZL "=<>!" c)=Y6 (!yc (pv B k)):=by obtain hlen:=h.I;obtain hs:=h.b;cases k with|zero=>
  by_cases u:a=0;.refine bj (by erw[u];rfl) ?_;rfl
  .refine bk (by simp[u]) ?_;obtain ht:(x.cps.toList.take a).length=a:=by refine zJ5 dF<|?_;exact w7 h.le
   obtain h1:=Wu h.g<|λz=>u (by refine pd ht<|zJ5 z ?_;rfl);rw[eP,ht,List.getElem?_take,d9<|by exact Nat.sub_one_lt u]at h1;obtain h2:a-1<x.cps.toList.length:=by refine ?_;have:x.cps.size=x.length:=Y7;exact gw hlen hk this
   rw[show((a+0:Y9):Yh)-1=((a-1:Y9):Yh)by exact ck<|w5 u,kI (by exact bu hs)<|uG (by rw[dK h2];rw[r7 h2]at h1;rw[c0 h1]:x.cps.toList.drop (a-1)=10::x.cps.toList.drop (a-1+1))<|by exact gx hlen,mC,Nm 10 iu];rfl|succ k=>refine zJ5 (show((a+(k+1):Y9):Yh)-1=((a+k:Y9):Yh)by exact ZS.mpr Y7) ?_;obtain hk':k<B.length:=gJ hk;obtain h1:=h.u<|n6 hk';rw[dK hk']at h1;rw[kI (by exact bu hs) h1,mC,Nm _<|h.f _<|gT hk'];show _=Y6 (!yc (B.getD k 0));refine zJ5 v4<|zJ5 (r7 hk') ?_;rfl
theorem Wy(h:rd x a B){e:Y9}:∀(n k lev:Y9)(l:Ln)(r:Y9×Yj),Re.At x.cps (a+e) (a+k) l->e<=B.length->(∀d∈l,d<128)->qa l->x9 B n k l lev=Y6 r->x7 x ((a+e:Y9):Yh) n ((a+k:Y9):Yh) ((lev:Y9):Yh)=Y6 (((a+r.1:Y9):Yh),r.2):=by intro Y;induction Y with|zero=>exactλy y y y y y y y h=>lz h|succ n V=>exact fun
   |k,lev,[],r,hA,_,_,_,F=>by obtain rfl:=c0 F;rw[hA.L];exact bk (sM _) Y7|k,lev,c::t,r,hA,he,h7,hn,F=>by
    have hs:=h.b;have J:x.length<=1000:=bu hs;obtain hlen:=h.I;have N:=hA.J.1;obtain⟨o1,o2⟩:=N9 c<|h7 c<|.head _;obtain F:(if uy c then x9 B n (k+1) t (lev+1)else if cls c then x9 B n (k+1) t<|lev-1 else if c=34\/c=39 then x9 B n (k+ol (c::t)) ((c::t).drop<|ol<|c::t) lev else if c=35 then Y6 (k,Yc)else if(lev=0/\c=61)/\yc (pv B k)=Yc/\t.head?≠Y6 61 then Y6 (k,Ye)else x9 B n (k+1) t lev)=Y6 r:=F;have one:∀I,x9 B n (k+1) t I=Y6 r->x7 x ((a+e:Y9):Yh) n (((a+k:Y9):Yh)+1) ((I:Y9):Yh)=Y6 (((a+r.1:Y9):Yh),r.2):=λI F=>V (k+1) I t r hA.J.2.2 he (λd hd=>h7 d<|.tail _ hd) (hn.F<|u3 _ _) F;show(if((a+k:Y9):Yh)<((a+e:Y9):Yh)then(lc x ((a+k:Y9):Yh)).bind λch=>if u9 "([{" ch then x7 x ((a+e:Y9):Yh) n (((a+k:Y9):Yh)+1)<|((lev:Y9):Yh)+1 else if u9 ")]}" ch then x7 x ((a+e:Y9):Yh) n (((a+k:Y9):Yh)+1)<|if((lev:Y9):Yh)=0 then((lev:Y9):Yh)else((lev:Y9):Yh)-1 else if ch="\""\/ch="'"then(pq kf x [((a+k:Y9):Yh),((a+e:Y9):Yh)]).bind λr=>r.bind λm=>x7 x ((a+e:Y9):Yh) n (m.2:Y9) ((lev:Y9):Yh)else if ch="#"then Y6 (((a+k:Y9):Yh),Yc)else(Ce x ((a+k:Y9):Yh) ((lev:Y9):Yh) ch).bind λt=>if t then Y6 (((a+k:Y9):Yh),Ye)else x7 x ((a+e:Y9):Yh) n (((a+k:Y9):Yh)+1) ((lev:Y9):Yh)else Y6 (((a+k:Y9):Yh),Yc))=_;rw[d9<|Int.ofNat_lt.mpr N,kI J hA,u6,o1,o2];by_cases T:uy c=Ye;·rw[d9 T]at F⊢;exact one _ F
    rw[d8 T]at F⊢;by_cases X:cls c=Ye;·rw[d9 X]at F⊢;rw[(by
        by_cases z:lev=0;·rw[z];rfl
        ·rw[d8<|by simp[z]];exact ck<|w5 z:(if((lev:Y9):Yh)=0 then((lev:Y9):Yh)else((lev:Y9):Yh)-1)=((lev-1:Y9):Yh))];exact one _ F
    rw[d8 X]at F⊢;by_cases L:c=34\/c=39
    · replace F:=bi L F;obtain hq:(⟨#[c]⟩:Yg)="\""\/(⟨#[c]⟩:Yg)="'":=L.imp λz=>by rw[z];rfl λz=>by rw[z];rfl
      rw[d9 hq,(H6 J (g8 (n6 N)<|hlen▸i8 he _)<|hlen▸i8 he _).trans<|MK hA L<|r5 (i8 he _)<|by rw[hlen];exact hs];rw[m3];exact V (k+ol (c::t)) lev _ r (by rw[<-m3];exact At.skip _ hA H9) he (λd hd=>h7 d<|fC hd) (hn.F<|dQ _ _) F
    replace F:=bc L F;rw[d8<|λz=>L<|z.imp rc.mp rc.mp];by_cases O:c=35;·replace F:=bi O F;obtain rfl:=c0 F;exact bj (by rw[O];rfl) Y7
    replace F:=bc O F;rw[d8 (λz=>O<|rc.mp z:¬(⟨#[c]⟩:Yg)="#")];obtain he1:Ce x ((a+k:Y9):Yh) ((lev:Y9):Yh) ⟨#[c]⟩=Y6 (Yk<|(lev=0/\c=61)/\yc (pv B k)=Yc/\t.head?≠Y6 61):=by
      unfold Ce;by_cases q:lev=0/\c=61;·rw[d9 ⟨by rw[q.1];rfl,by rw[q.2];rfl⟩,Wx h<|i9 (oU N) he,u6];refine cq (gK<|hn.J<|by rw[q.2];decide) λd u U=>?_;subst U;obtain hg2:lc x (((a+k:Y9):Yh)+1)=Y6 ⟨#[d]⟩:=kI J hA.J.2.2;cases hp:yc (pv B k)with|true=>rw[xb,n9<|λz=>su z.2.1]|false=>
          rw[d9 iu,hg2,mC];refine i6 Y6 ?_;rw[(by
            by_cases z:d=61;·rw[z];rfl
            ·rw[n9 z];exact Yl.mpr λw=>z (r4 w).1:((⟨#[d]⟩:Yg).cps.toList==[61])=Yk (d=61))];by_cases z:d=61;·rw[i7 z,n9<|λw=>w.2.2<|by rw[z];rfl];rfl
          ·rw[n9 z,i7 ⟨q,Y7,λw=>z<|c0 w⟩];rfl
      ·rw[d8<|λz=>q ⟨ZE.mp z.1,rc.mp z.2⟩,n9<|λz=>q z.1]
    rw[he1,u6];by_cases S:(lev=0/\c=61)/\yc (pv B k)=Yc/\t.head?≠Y6 61;·replace F:=bi S F;obtain rfl:=c0 F;exact bj (i7 S) Y7
    ·obtain F:=bc S F;rw[d8<|by rw[n9 S];decide];exact one _ F
theorem yx{j:Yh}:se x (n+1) j=(lc x j).bind λc=>if u9 " \t\n" c then Y6 j else se x n<|j+1:=Y7
theorem yy(hs:x.length<=1000){b:Y9}:∀(n p:Y9)(l:Ln),l.length<n->Re.At x.cps b p l->(∀d∈l,d<128)->10∈l->se x n (p:Y9)=Y6 ((p+(l.takeWhile λc=>!b3 c).length:Y9):Yh):=by intro n;induction n with|zero=>exactλq q h=>g9 h<|eV _|succ n F=>
  intro p l I h u hm;rcases l with _|⟨c,l⟩;.exact tq hm
  refine yx.trans ?_;rw[kI hs h,u6,N8 c<|u c<|.head _,v6];by_cases e:b3 c=Ye;.rw[d9 e,d8<|by rw[e];decide];rfl
  .rw[d8 e,d9<|by rw[(lV _).mp e];rfl];have:=F (p+1) l (fG I) h.J.2.2 (λd hd=>u d<|.tail _ hd)<|(Yn.mp hm).resolve_left (by rintro rfl;exact e Y7);rw[m4,v3 _ 1,<-m3];exact this
theorem wN{sp e i j:Yh}{f g:Yj}(h1:kR x 1000 (a:Y9)=Y6 sp)(h2:gE x rz sp+1=e)(h3:x7 x e 1000 sp 0=Y6 (i,f))(h4:Dz x e i f=Y6 (j,g)){k:Yh}(h5:(if g then Y6 j else se x 1000 sp)=Y6 k):Cf x (a:Y9)=Y6 (zP x (a:Y9) k):=by unfold Cf;rw[h1,u6,h2,h3,u6,h4,u6,h5];rfl
theorem Wz{y:Yg}(hy:y.length<1000):∃r,pq rt y []=Y6 r/\r.isSome=AQ y.cps.toList:=by obtain hA:Re.At y.cps y.cps.size 0 y.cps.toList:=uG (x:=y) Y7<|v8 _;refine am (Vz hA hy) λr e1 e2=>⟨r,?_,e2⟩;refine pd e1 ?_;refine bj iu ?_;show zG rt y.cps (Ze 0 y.cps.size) (Ze (2^63-1:Yh).toNat y.cps.size)=_;obtain hx:y.cps.size=y.length:=Y7;rw[w7<|v8 _,fE];exact g8 (n6<|hx▸hy) iu
theorem WA(F:B.length<300)(hn:qa B)(Z:B≠[])(h7:∀d∈B,d<128):∃y:Yg,(∀d∈y.cps.toList,d∈B)/\y.length<=B.length/\∀x a,rd x a B->Cf x (a:Y9)=Y6 y:=by
 obtain k0:=DG (f:=mf) B;obtain hd:B.drop (B.takeWhile mf).length=B.dropWhile mf:=by have:=@gZ _ (B.takeWhile mf)<|B.dropWhile mf;rw[r8]at this;exact this
 have V:=hn.I Z;have hm:10∈B.drop (B.takeWhile mf).length:=by rw[hd];exact(Yz.mp<|by rw[r8];exact V).resolve_left λz=>Wv B z
 generalize hk:(B.takeWhile mf).length=k at k0 hm;have N:=λd(hd:d∈B.drop k)=>h7 d<|fC hd;refine am (uN hm) λt Y w=>?_;obtain hl1:=i6 Ys Y;rw[j9,m4,r9]at hl1;obtain hrow:(B.drop k).take (((B.drop k).takeWhile (·!=10)).length+1)=(B.drop k).takeWhile (·!=10)++[10]:=by have:=@Ww ((B.drop k).takeWhile (·!=10)) t;rw[<-Y]at this;exact this
 generalize hq:((B.drop k).takeWhile (·!=10)).length=q at hl1 hrow;obtain hrn:qa<|(B.drop k).take<|q+1:=λd hd=>by rw[hrow,gN]at hd;exact(c0 hd).symm
 refine bo (Wt (B:=B) 1000 k 0 ((B.drop k).take<|q+1)<|by rw[dF,r9];exact r5 (fR _ _)<|dj F) λr r1 r2 r3=>?_;have X:((B.drop k).take<|q+1).length=q+1:=by rw[dF,r9];exact gy hl1
 rw[X]at r3;have u:∀x a,rd x a B->kR x 1000 (a:Y9)=Y6 ((a+k:Y9):Yh)/\gE x rz ((a+k:Y9):Yh)+1=((a+(k+q+1):Y9):Yh)/\x7 x ((a+(k+q+1):Y9):Yh) 1000 ((a+k:Y9):Yh) 0=Y6 (((a+r.1:Y9):Yh),r.2)/\se x 1000 ((a+k:Y9):Yh)=Y6 ((a+k+((B.drop k).takeWhile λc=>!b3 c).length:Y9):Yh):=λx a h=>by
  obtain hs:=h.b;obtain hlen:=h.I;obtain hAk:=h.u k0;refine⟨?_,?_,Wy h 1000 k 0 _ r (by rw[show a+(k+q+1)=a+k+(q+1)by exact lF<|m3 _ _<|_+1];exact At.pre hAk (j:=q+1)<|by simp[hl1]) (by exact gz hl1) (λd hd=>N d<|gX hd) hrn r1,yy (by exact bu hs) 1000 (a+k) (B.drop k) (by rw[r9];exact dj F) hAk N hm⟩;.have:=Nh (by exact bu hs) 1000 (a+0) (B.drop 0) (by exact g8 F iu) (h.u<|v8 _) h7 V;rw[sH,hk]at this;exact this
  .rw[N6 hAk hm,hq];simp+arith
 have J:∀x a,rd x a B->zP x (a:Y9) ((a+k+((B.drop k).takeWhile λc=>!b3 c).length:Y9):Yh)=⟨(B.take<|k+((B.drop k).takeWhile λc=>!b3 c).length).toArray⟩:=λx a h=>by have:=h.F (i:=0) (t:=k+((B.drop k).takeWhile λc=>!b3 c).length)<|v8 _;rw[m3];exact this
 have inB:∀j,(∀d∈(⟨(B.take j).toArray⟩:Yg).cps.toList,d∈B)/\(⟨(B.take j).toArray⟩:Yg).length<=B.length:=λj=>⟨λd hd=>gX hd,by show(B.take j).toArray.size<=_;rw[dT,dF];exact fR _ _⟩;by_cases hf:r.2=Ye
 .refine am (Wz<|by show((B.drop<|r.1+1).take<|k+q+1-(r.1+1)).toArray.size<1000;rw[dT,dF,r9];exact r5 (fR _ _)<|dj F) λm m1 m2=>?_;have S:∀x a,rd x a B->Dz x ((a+(k+q+1):Y9):Yh) ((a+r.1:Y9):Yh) r.2=Y6 (((a+r.1:Y9):Yh)+1,m.isNone):=λx a h=>by obtain hc:=h.F (i:=r.1+1) (t:=k+q+1-(r.1+1)) (by lia);rw[m3 a,dO<|by lia]at hc;unfold Dz;rw[d9 hf,show((a+r.1:Y9):Yh)+1=((a+(r.1+1):Y9):Yh)from Y7,hc,m1];rfl
  by_cases U:m.isNone=Ye;.refine⟨⟨(B.take<|r.1+1).toArray⟩,(inB _).1,(inB _).2,λx a h=>bz (u x a h) λO I L T=>?_⟩;rw[wN O I L (S x a h)<|d9 U];have:=h.F (i:=0) (t:=r.1+1)<|v8 _;exact i6 Y6 this
  .refine⟨⟨(B.take<|k+((B.drop k).takeWhile λc=>!b3 c).length).toArray⟩,(inB _).1,(inB _).2,λx a h=>bz (u x a h) λO I L T=>?_⟩;rw[wN O I L (S x a h)<|(d8 U).trans T,J x a h]
 .refine⟨⟨(B.take<|k+((B.drop k).takeWhile λc=>!b3 c).length).toArray⟩,(inB _).1,(inB _).2,λx a h=>bz (u x a h) λO I L T=>?_⟩;rw[wN O I L (d8 hf)<|(xb).trans T,J x a h]
end
structure wz where
 cl:Yj
 y:Yg
 a:R2
 b:Yd Yh
def DX(y:Yg):Yh:=(((mh (Int.toNat 8) y).length:Y9):Yh)
structure py(x:Yg)(R:Ln)(c:Y9)(A:wz):Prop where
 st:kG x R=Y6 A.a
 cl:∃m,pq pn x [A.a.a]=Y6 m/\m.isSome=A.cl
 d:Cd x A.a.a A.a.b=Y6 A.y
 e:c=4->∃o pre more,A.a.s.a.getLast?=Y6 o/\vO x o=Y6 (pre,more)/\pa pre 8=Ye/\A.b=Y6 (DX pre+if more then 4 else 0)f:c=1->∃y,Cf x A.a.a=Y6 y/\pa y 8=Ye/\A.b=Y6 (DX y+1)g:c≠4->c≠1->A.b=Y8
def AU:Z:=⟨[],[(0,0)],""⟩
def No(a b e:Y9)(z:Z):R2:=⟨(a:Y9),(b:Y9),upZ a e z⟩
theorem WB{B W:Ln}{c k:Y9}(F:B.length<300)(V:qa B)(S:∀d∈B,d<128)(U:W=B.take k)(h4:c=4->∃o,(mm 1000 0 W AU).a.getLast?=Y6 o/\o<B.length)(h1:c=1->B≠[]):∃ex,∀(x:Yg)(R:Ln)(a e:Y9),rd x a B->kG x R=Y6 (No a (a+W.length) e<|mm 1000 0 W AU)->py x R c ⟨qp B,⟨(W.takeWhile mf).toArray⟩,No a (a+W.length) e<|mm 1000 0 W AU,ex⟩:=by
 obtain hWl:W.length<=B.length:=by refine zJ5 U<|zJ5 dF ?_;exact fR _ _
 obtain hWm:∀d∈W,d<128:=λd hd=>S d<|gX<|U▸hd;have u:∀(x:Yg)(a e:Y9),rd x a B->(∃m,pq pn x [((a:Y9):Yh)]=Y6 m/\m.isSome=qp B)/\Cd x ((a:Y9):Yh) ((a+W.length:Y9):Yh)=Y6 ⟨(W.takeWhile mf).toArray⟩:=λx a e h=>by
  obtain hA:=uG h.e h.le;refine am (Mx hA h.b) λm m1 m2=>⟨⟨m,(DS (q:=x.length) Y7 (bu h.b) h.le<|.inl Y7).trans m1,m2⟩,?_⟩;obtain hP:=At.pre hA hWl;obtain e:B.take W.length=W:=by
   refine zJ5 U<|zJ5 dF ?_;by_cases q:k<=B.length;.exact zJ5 (w7 q) Y7
   .exact zJ5 (fE<|gS q)<|zJ5 (dW<|j7 _)<|zJ5 (dW<|gS q) Y7
  rw[e]at hP;exact Ni h.b hP hWm
 by_cases I:c=4;.refine am (h4 I) λo o1 o2=>bp (Wq F V o2) λpre O p1 p2 p3=>⟨Y6<|DX pre+if O then 4 else 0,λx R a e h J=>?_⟩;obtain⟨N,L⟩:=u x a e h;refine⟨J,N,L,λw=>⟨((a+o:Y9):Yh),pre,O,?_,p3 x a h,Nl (g8 p2<|n6 F) λd hd=>S d<|p1 d hd,Y7⟩,λz=>g9 (z.symm.trans I) iu,λz=>g9 I z⟩;show(wy a (mm 1000 0 W AU).a).getLast?=_;unfold wy;refine zJ5 iA<|zJ5 o1 ?_;rfl
 by_cases T:c=1;.refine bo (WA F V (h1 T) S) λy p1 p2 p3=>⟨Y6<|DX y+1,λx R a e h J=>?_⟩;obtain⟨N,L⟩:=u x a e h;exact⟨J,N,L,λz=>g9 z I,λw=>⟨y,p3 x a h,Nl (g8 p2<|n6 F) λd hd=>S d<|p1 d hd,Y7⟩,λw z=>g9 T z⟩
 .refine⟨Y8,λx R a e h J=>?_⟩;obtain⟨N,L⟩:=u x a e h;exact⟨J,N,L,λz=>g9 z I,λz=>g9 z T,λw w=>Y7⟩
section
variable{x:Yg}{l:Ln}{M:Mk}{R:Ln}{c:Y9}
theorem WC(u:qa l):kd l (l.count 10)=[]:=eO λz=>by obtain h1:=zW<|j7<|l.count 10;have:=YZ.mpr<|(u.F<|qO l _).I z;simp_all
theorem lu.ds(h:lu l M R c)(hc:c≠0):∃j,xU l R (R.length-1)=Y6 j/\j+1=R.length-1/\R.getD (j+1) 0=l.count 10/\R.getD j 0∈M.d:=by
 refine bC λI=>?_;obtain⟨_,e,L⟩:=h.rows.resolve_left λz=>hc z.1;obtain⟨_,_,u,J⟩:=h.T;obtain hl:R.length-1=M.d.length:=by rw[e,j9];rfl
 refine I ?_;have F:M.d.length=u.length+1:=by rw[J];rfl
 have hj:R.getD u.length 0∈M.d/\M.d.getLast?=Y6 (R.getD u.length 0):=by
  have h1:u.length<M.d.length:=by simp[F]
  rw[(by rw[v4,e,fZ h1,r7 h1];rfl:R.getD u.length 0=M.d[u.length])];refine⟨gT h1,?_⟩;rw[eP,F,mJ,r7 h1]
 refine⟨u.length,?_,by simp[hl,F],?_,hj.1⟩;.rw[hl,F];show(if mj<|kd l<|R.getD u.length 0then xU l R u.length else Y6 u.length)=_;rw[d8 λz=>?_];have:=DQ h.d.a.a (h.cr hj.1 z) hj.2;exact g9 this<|Nat.not_succ_le_self _
 .rw[<-F,v4,e,cA<|j7 _,gV];rfl
theorem lu.jt(h:lu l M R c)(hc:c=4):AT M/\0<M.a:=by
 obtain he:=h.k;obtain ho:=h.d.d;unfold AR at ho;unfold sm at he;rw[d9<|decide_eq_decide.mpr ho]at he;obtain h1:(if M.c≠2/\M.c≠3/\0<M.a then 4 else M.c)=c:=i6 Prod.snd<|c0 he;by_cases q:M.c≠2/\M.c≠3/\0<M.a;.exact⟨⟨q.1,q.2.1⟩,q.2.2⟩
 .rw[d8 q]at h1;have:=h.d.e;lia
theorem Np(u:x.cps.toList=l)(hs:x.length<300)(F:∀d∈l,d<128){r:Y9}(I:r<=l.count 10):rd x (oe l r)<|kd l r:=by obtain⟨p1,p2⟩:=yR (r:=r) u;refine⟨hs,p1,p2,?_,λd hd=>F d<|(qO l r).mem hd⟩;rw[u,MV];exact(xR l r I).1
theorem Nq(O:x.cps.toList=l)(hs:x.length<300)(h:lu l M R c)(U:∀d∈l,d<128){j:Y9}(hj:xU l R (R.length-1)=Y6 j):∃k,k<=(kd l<|R.getD j 0).length/\(kd l<|R.getD j 0).take k=la (kd l<|R.getD j 0) (R.getD (j+1) 0-R.getD j 0)/\(c=4->∃o,(mm 1000 0 (la (kd l<|R.getD j 0)<|R.getD (j+1) 0-R.getD j 0) AU).a.getLast?=Y6 o/\o<(kd l<|R.getD j 0).length)/\(c=1->kd l (R.getD j 0)≠[])/\oe l (R.getD (j+1) 0)=oe l (R.getD j 0)+(la (kd l<|R.getD j 0)<|R.getD (j+1) 0-R.getD j 0).length:=by
 refine bC λu=>?_;obtain hx':l.length=x.length:=by refine pd O<|?_;rfl
 obtain⟨S,Y⟩:=yU hj;have F:=h.lt (u8 j)<|nO S;obtain hb:=h.le<|wL (R:=R) (i:=j+1)<|nO S;refine u ?_;have J:qa<|kd l<|R.getD j 0:=h.f.F<|qO l _;refine⟨oe (kd l<|R.getD j 0)<|R.getD (j+1) 0-R.getD j 0,MW _ _,MV _ _,λhc=>?_,λq=>λz=>by have:=zW (l:=l) (r:=R.getD j 0)<|g8 (n6 F) hb;rw[z]at this;exact fD _<|i9 F<|g8 hb<|eJ<|this.symm.trans<|fA _,?_⟩
 .refine bC λu=>?_;obtain⟨X,e1,e2,N,V⟩:=h.ds (by erw[hc];decide);refine u ?_;rw[hj]at e1;obtain rfl:=c0 e1;obtain ht:la (kd l<|R.getD j 0) (R.getD (j+1) 0-R.getD j 0)=kd l (R.getD j 0):=by erw[(by rw[N];exact lF<|Nat.eq_sub_of_add_eq<|zW (l:=l) (r:=R.getD j 0)<|N▸n6 F:R.getD (j+1) 0-R.getD j 0=(kd l<|R.getD j 0).count 10)];exact by have:=qU (Mine.Lake.L09.kd l<|R.getD j 0)<|(Mine.Lake.L09.kd l<|R.getD j 0).count 10;rw[WC J,eY]at this;exact this
  erw[ht];refine cj (h.d7 V) λM0 R0 G' t f1 f2 q=>?_;refine bC λu=>?_;obtain⟨T,s2⟩:=h.jt hc;have I:∀d∈kd l<|R.getD j 0,d<128:=λd hd=>U d<|(qO l _).mem hd;obtain hk:=Hg (M:=M0) (by unfold AT;erw[f2];exact T) 1000 0 (kd l<|R.getD j 0) AU vm (r5 (qO l<|R.getD j 0).length_le<|by rw[hx'];exact bx hs) J I t.o Y7;refine u ?_;rw[f1]at hk;refine bC λu=>?_;obtain⟨p1,p2⟩:=yR (r:=R.getD j 0) O;obtain⟨_,_,L⟩:=Nc (a:=oe l<|R.getD j 0) hs (uG p2 p1) J I;obtain hne:(mm 1000 0 (kd l<|R.getD j 0) AU).a≠[]:=λz=>by rw[z]at hk;exact g9 hk<|v9 s2
  refine u ?_;exact⟨_,w8 hne,L _<|pN hne⟩
 .have:=DO l (R.getD j 0)<|R.getD (j+1) 0-R.getD j 0;rw[dO<|n6 F]at this;exact this
end
def Nr:wz:=⟨Yc,"",⟨0,0,⟨0,[],[(0,0)],""⟩⟩,Y8⟩
structure wc(s:Y9)(A A':wz):Prop where
 cl:A.cl=A'.cl
 y:A.y=A'.y
 e:A.b=A'.b
 c:A.a.s.c=A'.a.s.c
 a:A.a.a=A'.a.a+(s:Y9)b:A.a.b=A'.a.b+(s:Y9)d:A.a.s.b=A'.a.s.b.map λb=>(b.1+((s:Y9):Yh),b.2)
section
variable{x:Yg}{l:Ln}{M:Mk}{R:Ln}{c:Y9}
theorem tj(h:lu l M R c):R.getD (R.length-1) 0=l.count 10/\0<R.length:=by obtain h1:=h.V;refine am h.T λt u q=>?_;rw[eP]at h1;exact⟨by refine zJ5 v4<|zJ5 h1 ?_;rfl,by exact zJ5 u<|eG _⟩
theorem WD(I:x.cps.toList=l)(hs:x.length<300)(h:lu l M R c)(J:∀d∈l,d<128)(hj:xU l R (R.length-1)=Y8):c=0/\py x R c Nr:=by
 obtain⟨hc,F⟩:=h.U λg hg u=>by obtain⟨i,hi,rfl⟩:=oB hg;rw[<-(by rw[v4,r7 hi];rfl:R.getD i 0=R[i])]at u|-;refine yV hj i<|bI (gW hi) λz=>?_;rw[z,(tj h).1]at u;exact fD _ u
 refine⟨hc,(Hc I hs h J).2 hj,am (Mx (uG (by exact I)<|v8 _:Re.At x.cps x.length 0 l) hs) λm m1 m2=>⟨m,(DS (q:=x.length) Y7 (bu hs) (v8 _)<|.inl Y7).trans m1,m2.trans<|VV _ (j7 _) h.f F⟩,Ni (a:=0) (b:=0) (l:=[]) hs ⟨Y7,j7 _,v8 _⟩<|λw z=>tq z,λz=>?_,λz=>?_,λw w=>Y7⟩;.rw[hc]at z;cases z
 .rw[hc]at z;cases z
theorem yY{A R0:Ln}{g i:Y9}(h:i<R0.length):(A++R0.map (g+·)).getD (A.length+i) 0=g+R0.getD i 0:=by rw[v4,cA<|m7 _ _,dD,iW,Hb h];rfl
theorem WE{l G' R0:Ln}{g:Y9}:∀i,i<=R0.length->xU l (G'++R0.map (g+·)) (G'.length+i)=(xU (kd l g) R0 i).elim (xU l (G'++R0.map (g+·)) G'.length) λj=>Y6<|G'.length+j:=by intro F;induction F with|zero=>exactλz=>Y7|succ i u=>
  intro hi;show(if mj<|kd l<|(G'++R0.map (g+·)).getD (G'.length+i) 0then xU l (G'++R0.map (g+·)) (G'.length+i)else Y6<|G'.length+i)=(if mj<|kd (kd l g)<|R0.getD i 0then xU (kd l g) R0 i else Y6 i).elim _ _;rw[yY hi,jJ];by_cases q:mj (kd (kd l g)<|R0.getD i 0)=Ye;.rw[d9 q,d9 q];exact u<|t9 hi
  .rw[d8 q,d8 q];rfl
theorem Hi(t:lu l M R c)(F:0<l.count 10):0<R.length-1:=by obtain⟨h1,h2⟩:=tj t;refine w5 λz=>?_;rw[z]at h1;refine am t.T λu I q=>?_;rw[I]at h1;exact eZ F h1.symm
theorem WF(T:x.cps.toList=l)(hs:x.length<300)(h:lu l M R c)(S:∀d∈l,d<128):∃A,py x R c A/\∀(g:Y9)(J:Yg),g∈M.d->J.cps.toList=kd l g->g=0\/mj (kd l g)=Yc/\g<l.count 10->∃M0 R0 G' A',lu (kd l g) M0 R0 c/\R=G'++R0.map (g+·)/\py J R0 c A'/\wc (oe l g) A A':=by
 have same:∀{A:wz}{J:Yg}{g:Y9},py x R c A->J.cps.toList=kd l g->g=0->∃M0 R0 G' A',lu (kd l g) M0 R0 c/\R=G'++R0.map (g+·)/\py J R0 c A'/\wc (oe l g) A A':=λ{A J g}N e z=>by subst z;rw[xC]at e|-;obtain rfl:J=x:=Str.rl<|e.trans T.symm;refine⟨M,R,[],A,h,by simp,N,?_⟩;rw[show oe l 0=0 from i6 Ys<|GZ l];exact⟨Y7,Y7,Y7,Y7,(oH _).symm,(oH _).symm,by simp⟩
 cases hj:xU l R<|R.length-1with|none=>
  obtain⟨hc,N⟩:=WD T hs h S hj;refine⟨Nr,N,λg J hg e hz=>?_⟩;rcases hz with hz|⟨hz,hl⟩;.exact same N e hz
  .obtain⟨i,hi,rfl⟩:=oB<|h.d6 hg;rw[<-(by rw[v4,r7 hi];rfl:R.getD i 0=R[i])]at hz hl;rw[yV hj i<|bI (gW hi) λz=>by rw[z,(tj h).1]at hl;exact fD _ hl]at hz;exact su hz|some j=>
  obtain⟨Y,j2⟩:=yU hj;obtain hx':l.length=x.length:=by refine pd T<|?_;rfl
  refine fu (Nq T hs h S hj) λk k1 k2 k3 k4 k5=>bn ((Hc T hs h S).1 j hj) λe he=>bn (WB (k:=k) (r5 (qO l<|R.getD j 0).length_le<|by rw[hx'];exact hs) (h.f.F<|qO l<|R.getD j 0) (λd hd=>S d<|(qO l _).mem hd) k2.symm k3 k4) λex F=>?_;rw[k5]at he;have N:=F x R _ e (Np T hs S<|h.le<|wL (R:=R) (i:=j)<|g8 Y<|iY _ 1) he;refine⟨_,N,λg J hg L hz=>?_⟩;rcases hz with hz|⟨hz,hl⟩;.exact same N L hz
  refine dx (h.d7 hg) λM0 R0 G' t q q q e2=>?_;have Z:J.length<300:=by obtain h1:=i6 Ys L;exact ig hs hx' h1 (qO l g).length_le Y7
  have s2:∀d∈kd l g,d<128:=λd hd=>S d<|(qO l g).mem hd;obtain l2:=(tj t).2;have l1:R.length-1=G'.length+(R0.length-1):=by rw[e2,j9,n5];exact mY l2 _
  have U:=hj;rw[l1,e2,WE _<|iY _ _]at U;cases O:xU (kd l g) R0<|R0.length-1with|none=>have:=yV O 0<|Hi t (by have:=zW<|n6 hl;lia);refine am t.T λu hu q=>?_;rw[hu]at this;rw[(i6 mj<|xC<|kd l g).symm.trans this]at hz;exact su hz|some I=>
   rw[O]at U;have V:j=G'.length+I:=(c0 U).symm;obtain r1:R.getD j 0=g+R0.getD I 0:=by have:=yY (A:=G') (g:=g) (i:=I) (R0:=R0)<|gJ<|dt Y l1 V;rw[<-e2,<-V]at this;exact this
   refine fu (Nq L Z t s2 O) λq q q q q a0=>bn ((Hc L Z t s2).1 I O) λe' X=>?_;rw[a0]at X;obtain eB:kd l (R.getD j 0)=kd (kd l g) (R0.getD I 0):=by rw[r1,jJ]
   obtain ea:oe l (R.getD j 0)=oe l g+oe (kd l g) (R0.getD I 0):=by rw[r1,DO]
   obtain hF:=Np L Z s2<|t.le<|wL (R:=R0) (i:=I)<|gJ<|dt Y l1 V;rw[<-eB]at hF;rw[<-eB,<-(by rw[r1,(by have:=yY (A:=G') (g:=g) (i:=I+1) (R0:=R0)<|dt Y l1 V;rw[<-e2,<-m3,<-V]at this;exact this:R.getD (j+1) 0=g+R0.getD (I+1) 0)];exact Nat.add_sub_add_left _ _ _:R.getD (j+1) 0-R.getD j 0=R0.getD (I+1) 0-R0.getD I 0)]at X;refine⟨M0,R0,G',_,t,e2,F J R0 _ e' hF X,Y7,Y7,Y7,Y7,zJ5 ea<|i6 Nat.cast<|v3 _ _,?_,by erw[iX];refine iS λb q=>zJ5 ea ?_;congr 1;simp+arith⟩;.show((oe l (R.getD j 0)+_:Y9):Yh)=((oe (kd l g) (R0.getD I 0)+_:Y9):Yh)+((oe l g:Y9):Yh);erw[ea];simp+arith
end
end Mine.Lake.L09
namespace Mine.Lake.Tx
open PySem PySem.Sre Mine.Lake.Re Mine.Lake.L09
def yz(l:Ln):Yd Y9:=(x8 (l.dropWhile mf) me).map ((l.takeWhile mf).length+·)
theorem Hj:∀w∈me,10∉w/\3<=w.length/\w.getLast?.any isWordUni:=jg
theorem WG{t:Yp Y9}{p q:Y9}{l:Ln}(h:At t q p l)(hs:jE t p):zH t q me p=(yz l).map (p+·):=by unfold zH yz;rw[d9 hs,h.c,Mv h.N.2 me λw u=>(Hj w u).2.2,Option.map_map];congr 1;funext e;exact m3 ..
theorem y3{f:Y9->Yj}(u:f 10=Yc)(r:Ln):∀l:Ln,(l++10::r).takeWhile f=l.takeWhile f/\(l++10::r).dropWhile f=l.dropWhile f++10::r:=by intro l;induction l with|nil=>exact⟨by rw[oO,v6,u];rfl,by rw[oO,w9,u];rfl⟩|cons c l F=>rw[nP,v6,w9,v6,w9];cases f c with|true=>exact⟨i6 _ F.1,F.2⟩|false=>exact⟨Y7,Y7⟩
theorem WH{r:Ln}:∀{w v:Ln},10∉w->(w.isPrefixOf (v++10::r)&&yu ((v++10::r).drop w.length))=(w.isPrefixOf v&&yu (v.drop w.length)):=by intro w;induction w with
 |nil=>intro v _;cases v with|nil=>show(Ye&&!isWordUni 10)=Ye;decide+kernel|cons c v=>rfl
 |cons d w u=>intro v h;cases v with|nil=>show(d==10&&_&&_)=_;rw[Yl.mpr (λq=>h<|by rw[<-q];exact .head _:d≠10)];rfl|cons c v=>show(d==c&&_&&_)=(d==c&&_&&_);rw[sF,sF];exact i6 _<|u λq=>h<|.tail _ q
theorem WI(l r:Ln):yz (l++10::r)=yz l:=by
 unfold yz;obtain⟨h1,h2⟩:=y3 (f:=mf) Y7 r l;rw[h1,h2];congr 1;have:∀u:Yb<|Ln,(∀w∈u,10∉w)->x8 (l.dropWhile mf++10::r) u=x8 (l.dropWhile mf) u:=λu=>by induction u with|nil=>exactλq=>Y7|cons w u I=>intro h;show(if _ then _ else x8 _ u)=if _ then _ else _;rw[WH<|h w<|.head _,I λw F=>h w<|.tail _ F];rfl
 exact this _ λw F=>(Hj w F).1
theorem WJ{l:Ln}{e:Y9}(h:yz l=Y6 e):3<=e/\e<=l.length:=by obtain⟨k,hk,rfl⟩:=jl h;obtain⟨w,F,rfl,u⟩:=Mw hk;have:=i6 Ys<|@r8 _ mf l;rw[j9]at this;exact⟨g8 (Hj w F).2.1<|bA _ _,this▸i8 u _⟩
end Mine.Lake.Tx
namespace Mine.Lake.Tx
open PySem PySem.Sre Mine.Lake.Re
def kl(ls:Yb<|Ln):Ln:=(ls.map (·++[10])).flatten
def ld(ls:Yb<|Ln)(k:Y9):Y9:=(kl<|ls.take k).length
def nw(ls:Yb<|Ln):Prop:=∀l∈ls,10∉l
section
variable{ls:Yb<|Ln}{k j:Y9}
theorem oq(a b:Yb<|Ln):kl (a++b)=kl a++kl b:=by simp[kl]
theorem oa(l:Ln)(r:Yb<|Ln):kl (l::r)=l++10::kl r:=by simp[kl]
theorem y4:kl []=[]:=Y7
theorem ou:ld ls 0=0:=by simp[ld,kl]
theorem zJ(h:k<ls.length):ld ls (k+1)=ld ls k+ls[k].length+1:=by unfold ld;simp only[List.take_succ_eq_append_getElem h,oq];simp[kl];rfl
theorem si:ld ls ls.length=(kl ls).length:=by simp[ld]
theorem Hk(h:ls.length<=k):ld ls k=(kl ls).length:=by unfold ld;rw[dW h]
theorem zK:∀{a b:Y9},a<=b->ld ls a<=ld ls b:=by intro a b h;induction b with|zero=>have:a=0:=Nat.le_zero.mp h;subst this;exact j7 _|succ b F=>
  by_cases I:a=b+1;.subst I;exact j7 _
  .refine g8 (F<|by lia) ?_;by_cases u:b<ls.length;.rw[zJ u];exact n7<|m7 _ _
   .rw[Hk<|lX u,Hk<|Nat.le.step<|lX u];exact j7 _
theorem Hl{a b:Y9}(h:a<b)(u:b<=ls.length):ld ls a<ld ls b:=by refine i9 ?_<|zK (a:=a+1) h;rw[zJ<|g8 h u];exact w6<|m7 _ _
theorem pr:ld ls k<=(kl ls).length:=by
 by_cases h:k<=ls.length;.rw[<-si];exact zK h
 .rw[Hk<|gS h];exact j7 _
theorem uA(h:k<ls.length):kl ls=kl (ls.take k)++(ls[k]++10::kl (ls.drop<|k+1)):=by rw[<-oa,<-oq,<-(by rw[List.getElem_cons_drop_succ_eq_drop h,eW]:ls=ls.take k++ls[k]::ls.drop (k+1))]
theorem DY(h:k<ls.length){i:Y9}(hi:i<=ls[k].length):(kl ls)[ld ls k+i]?=(ls[k]++[10])[i]?:=by rw[uA h];obtain e:ld ls k=(kl<|ls.take k).length:=Y7;rw[e,cA<|m7 _ _];rw[show(kl<|ls.take k).length+i-(kl<|ls.take k).length=i by simp];rw[show ls[k]++10::kl (ls.drop<|k+1)=ls[k]++[10]++kl (ls.drop<|k+1)by simp];rw[fZ<|by simp;exact w6 hi]
theorem AV(h:k<ls.length){lim:Y9}(u:ld ls (k+1)<=lim)(hs:lim<=(kl ls).length):∃r,At (kl ls).toArray lim (ld ls k)<|ls[k]++10::r:=by rw[zJ h]at u;obtain⟨n,F⟩:=Nat.le.dest u;refine⟨(kl<|ls.drop<|k+1).take n,?_,n6<|r5 (m7 _ _) u,hs⟩;show((kl ls).drop<|ld ls k).take (lim-ld ls k)=_;obtain e:∀X,(kl (ls.take k)++X).drop (ld ls k)=X:=λX=>gZ;rw[uA h,e,show lim-ld ls k=ls[k].length+(n+1)by lia,List.take_length_add_append,fO]
theorem WK:∀{j:Y9},j<(kl ls).length->∃k,∃h:k<ls.length,∃i,i<=ls[k].length/\j=ld ls k+i:=by
 intro j hj;have:∀n,n<=ls.length->j<ld ls n->∃k,∃h:k<ls.length,∃i,i<=ls[k].length/\j=ld ls k+i:=by intro n;induction n with|zero=>intro _ h;rw[ou]at h;lia|succ n F=>
   intro u h;by_cases I:j<ld ls n;.exact F (n6 u) I
   .rw[zJ<|u]at h;exact⟨n,u,j-ld ls n,ZM.mpr<|dG h,by simp_all⟩
 exact this ls.length (j7 _)<|by rw[si];exact hj
theorem ry(hL:nw ls):(kl ls)[j]?=Y6 10↔∃r,r<ls.length/\j+1=ld ls (r+1):=by
 constructor
 .intro h;refine bC λI=>?_;obtain⟨k,hk,i,hi,rfl⟩:=WK (ls:=ls) (j:=j) (by
   rcases pW j (kl ls).length with q|q;.exact q
   .rw[lU q]at h;cases h);refine I ?_;rw[DY hk hi]at h;refine⟨k,hk,?_⟩;rw[zJ hk];by_cases F:i<ls[k].length;.rw[fZ F]at h;exact g9 (nX h)<|hL _<|gT hk
  .rw[fQ hi<|Nat.not_lt.mp F]
 .rintro⟨r,u,e⟩;rw[zJ u]at e;have:j=ld ls r+ls[r].length:=by simp_all
  rw[this,DY u<|j7 _];simp
theorem Nt(hL:nw ls){q:Y9}:jE (kl ls).toArray q=Ye↔∃r,r<=ls.length/\q=ld ls r:=by
 unfold jE;simp only[fX,v1,gG,List.getElem?_toArray];constructor
 .rintro(h|h);.subst h;exact⟨0,v8 _,ou.symm⟩
  .cases F:(kl ls)[q-1]? with|none=>rw[F]at h;cases h|some v=>
    rw[F]at h;have hv:v=10:=h;subst hv;refine am ((ry hL).mp F) λr u e=>?_;by_cases I:q=0;.subst I;exact⟨0,v8 _,ou.symm⟩
    .exact⟨r+1,u,(iT<|w5 I).symm.trans e⟩
 .rintro⟨r,u,rfl⟩;cases r with|zero=>left;exact ou|succ r=>right;rw[(ry hL).mpr ⟨r,u,gf<|zJ u⟩];rfl
end
def mr(ls:Yb<|Ln)(k:Y9):Yd Y9:=ls[k]?.bind yz
def nk(ls:Yb<|Ln):Y9->Y9->Yd (Y9×Y9):=nr (λq=>Y8) λr a=>match mr ls a with|some e=>Y6 (a,e)|none=>r<|a+1
section
variable{ls:Yb<|Ln}{k a:Y9}
theorem Nu(hL:nw ls)(h:k<ls.length){lim:Y9}(u:ld ls (k+1)<=lim)(hs:lim<=(kl ls).length):zH (kl ls).toArray lim me (ld ls k)=(mr ls k).map (ld ls k+·):=by obtain⟨r,F⟩:=AV h u hs;rw[WG F<|(Nt hL).mpr ⟨k,n6 h,Y7⟩,WI];unfold mr;rw[r7 h];rfl
theorem WL{text:Yp Y9}{lim:Y9}{u:Yb<|Ln}{q e:Y9}(hm:zH text lim u q=Y6 e):∀{n s:Y9},s<=q->q<=s+n->(∀F,s<=F->F<q->zH text lim u F=Y8)->uB text lim u n s=Y6 (q,e):=by intro J;induction J with|zero=>intro s h1 h2 _;have:s=q:=fQ h1 h2;subst this;show(zH text lim u s).map _=_;rw[hm];rfl|succ n I=>
  intro s h1 h2 h3;show(match zH text lim u s with|some e=>Y6 (s,e)|none=>uB text lim u n<|s+1)=_;by_cases hs:s=q;.subst hs;rw[hm]
  .rw[h3 s (j7 _)<|bI h1 hs];exact I (by lia) (by lia) λF a b=>h3 F (n6 a) b
theorem vp{text:Yp Y9}{lim:Y9}{u:Yb<|Ln}:∀{n s:Y9},(∀F,s<=F->F<=s+n->zH text lim u F=Y8)->uB text lim u n s=Y8:=by intro J;induction J with|zero=>intro s h;show(zH text lim u s).map _=Y8;rw[h s (j7 _)<|j7 _];rfl|succ n I=>intro s h;show(match zH text lim u s with|some e=>Y6 (s,e)|none=>uB text lim u n<|s+1)=Y8;rw[h s (j7 _)<|by simp];exact I λF a b=>h F (n6 a)<|by lia
theorem yM:∀{n a r e:Y9},nk ls n a=Y6 (r,e)->a<=r/\r<a+n/\mr ls r=Y6 e/\∀i,a<=i->i<r->mr ls i=Y8:=by intro J;induction J with|zero=>exact@λa r e h=>lz h|succ n F=>intro a r e h;obtain h:(match mr ls a with|some e=>Y6 (a,e)|none=>nk ls n<|a+1)=Y6 (r,e):=h;cases u:mr ls a with|some L=>replace h:=u▸h;cases h;exact⟨j7 _,ej,u,λi a b=>by lia⟩|none=>rw[u]at h;exact bz (F h) λh1 h2 h3 h4=>⟨n6 h1,by lia,h3,λi I b=>by
    by_cases hi:i=a;.clear h;subst hi;exact u
    .exact h4 i (bI I<|gP hi) b⟩
theorem WM:∀{n a:Y9},nk ls n a=Y8->∀i,a<=i->i<a+n->mr ls i=Y8:=by intro I;induction I with|zero=>intro a _ i h1 h2;lia|succ n F=>intro a h i h1 h2;obtain h:(match mr ls a with|some e=>Y6 (a,e)|none=>nk ls n<|a+1)=Y8:=h;cases u:mr ls a with|some J=>rw[u]at h;cases h|none=>
   rw[u]at h;by_cases hi:i=a;.clear h h1 h2;subst hi;exact u
   .exact F h i (bI h1<|gP hi)<|by lia
theorem sr{r e:Y9}(h:mr ls r=Y6 e):∃u:r<ls.length,3<=e/\e<=ls[r].length:=by
 unfold mr at h;by_cases u:r<ls.length;.rw[r7 u]at h;exact⟨u,WJ h⟩
 .rw[lU<|lX u]at h;cases h
set_option tactic.hygienic true in theorem jP(hL:nw ls){p:Nat}(hk:k<=ls.length)(L:a<=k)(hp:p<=ld ls a)(Z:∀r,r<a->ld ls r<p):xJ (kl ls).toArray me p (ld ls k)=(nk ls (k-a) a).map λx=>(ld ls x.1,ld ls x.1+x.2):=by
 have u:∀q,p<=q->(∀r,a<=r->r<k->q=ld ls r->mr ls r=Y8)->q<ld ls k->zH (kl ls).toArray (ld ls k) me q=Y8:=by
  intro q h1 h2 h3;by_cases T:∃r,r<=ls.length/\q=ld ls r
  .obtain⟨r,F,rfl⟩:=T;have J:r<k:=by refine ZN.mp λh=>?_;have:=zK (ls:=ls) h;exact YR.mpr this h3
   rw[Nu hL (g8 J hk) (zK<|J) pr,h2 r (by refine YR.mp λh=>?_;have:=Z r h;lia) J Y7];rfl
  .unfold zH;rw[d8];intro h;obtain⟨r',U,X⟩:=(Nt hL).mp h;exact(λr F e=>T ⟨r,F,e⟩) r' U X
 cases V:nk ls (k-a) a with|none=>
  unfold xJ;split;.rfl
  .rename_i hs;refine vp λq h1 h2=>u q h1 (λr N F z=>(WM V) r N<|i9 F dk)<|r5 (dR (fY<|t9<|Nat.not_lt.mp hs)▸h2)<|iO (i9 (eG _)<|Nat.not_lt.mp hs) iu|some x=>obtain⟨r,e⟩:=x;refine bz (yM V) λh1 h2 h3 h4=>?_;obtain⟨F,h5,S⟩:=sr h3;have I:ld ls (r+1)<=ld ls k:=zK<|dR L▸h2;rw[zJ F]at I;obtain hpr:p<=ld ls r:=g8 hp<|zK h1;refine(d8<|Nat.not_lt.mpr<|g8 (dS hpr<|g8 h5 S)<|t9 I).trans<|WL (q:=ld ls r) (by rw[Nu hL F (zK<|dR L▸h2) pr,h3];rfl) hpr (g8 (fY<|g8 (i8 (g8 (t9 h5) S) _)<|t9 I) dk) λY a1 O=>u Y a1 (λi N hi e=>?_)<|i9 O<|g8 (m7 _<|_+1) I;subst e;refine h4 i N<|Nat.not_le.mp λh=>?_;have:=zK (ls:=ls) h;exact YR.mpr this O
end
end Mine.Lake.Tx
namespace Mine.Lake.Tx
open PySem PySem.Sre Mine.Lake.Re StrLaws PySem.Builtin PySem.Builtin.Str
theorem tU(x y:Yg)(hi:Y9):(Zc x y 0 hi=Y8/\∀i,¬ZV x y hi i)\/∃i,Zc x y 0 hi=Y6 i/\ZV x y hi i/\∀k,i<k->¬ZV x y hi k:=by
 rw[last_eq];have u:=last_run x y hi (eM 0<|hi+1-0) [] Y8 (λq h=>nomatch h) (λq h=>nomatch h) (by simpa using iU (s:=0) (n:=hi+1-0));have I:∀i,ZV x y hi i->i∈[]++eM 0 (hi+1-0):=λi F=>by have:=F.1;simp[List.mem_range']<;>lia
 cases J:(X_ (eM 0<|hi+1-0) Y8<|lastBody x y hi).run with|none=>rw[J]at u;exact .inl ⟨Y7,λi F=>u i (I i F) F⟩|some a=>rw[J]at u;exact .inr ⟨a,Y7,u.1,λk hk F=>u.2 k (I k F) hk F⟩
theorem we{x y:Yg}{hi i:Y9}(h:ZV x y hi i)(hm:∀k,i<k->¬ZV x y hi k):Zc x y 0 hi=Y6 i:=by
 rcases tU x y hi with⟨_,q⟩|⟨j,e,q,r⟩;.exact g9 h<|q i
 .rw[e];rcases pB i j with a|a|a;.exact g9 q<|hm j a
  .rw[a]
  .exact g9 h<|r i a
theorem Nv{x y:Yg}{hi:Y9}(h:∀i,¬ZV x y hi i):Zc x y 0 hi=Y8:=by
 rcases tU x y hi with⟨e,_⟩|⟨j,_,q,_⟩;.exact e
 .exact g9 q<|h j
theorem A7{x:Yg}{hi i:Y9}(u:hi<=x.cps.size):ZV x "\n" hi i↔i+1<=hi/\x.cps[i]?=Y6 10:=by show i+1<=hi/\(x.cps.extract i (i+1)==#[10])=Ye↔_;refine and_congr_right λh=>?_;rw[v1];have hi:i<x.cps.size:=i9 h u;rw[(by
  apply Array.ext;.rw[Array.size_extract,w7 hi];exact dD i 1
  .intro j h1 h2;obtain hj:j=0:=Nat.lt_one_iff.mp h2;subst hj;rw[rT];rfl:x.cps.extract i (i+1)=#[x.cps[i]'hi]),dM hi];simp
theorem WN{x:Yg}{hi i:Y9}(u:hi<=x.cps.size):ZV x ":\n" hi i↔i+2<=hi/\x.cps[i]?=Y6 58/\x.cps[i+1]?=Y6 10:=by
 show i+2<=hi/\(x.cps.extract i (i+2)==#[58,10])=Ye↔_;refine and_congr_right λh=>?_;rw[v1];have hi1:i+1<x.cps.size:=i9 h u;have hi:i<x.cps.size:=gJ hi1;rw[(by
  apply Array.ext;.rw[Array.size_extract,w7 hi1];exact dD i 2
  .intro j h1 h2;rw[rT];rcases j with _|_|j;.rfl
   .rfl
   .exact g9 h2<|Nat.not_lt.mpr<|bA 2 j:x.cps.extract i (i+2)=#[x.cps[i]'hi,x.cps[i+1]'hi1]),dM hi,dM hi1];simp
def lx(ls:Yb<|Ln)(k:Y9):Yj:=ls[k]?.bind (·.getLast?)==Y6 58
def yH(ls:Yb<|Ln):Y9->Yd Y9:=@Nat.rec (λq=>Yd Y9) Y8 λk r=>if lx ls k then Y6 k else r
set_option tactic.hygienic true in theorem Hm{ls:List<|Ln}:∀{k j:Nat},yH ls k=some j->j<k/\lx ls j/\∀r,j<r->r<k->lx ls r=false:=by intro I;induction I with|zero=>exact@λj h=>lz h|succ k F=>
  intro j h;change(if lx ls k then Y6 k else yH ls k)=_ at h;split at h;.rename_i hc;obtain rfl:=c0 h;exact⟨w6 R_,hc,λr a b=>by lia⟩
  .rename_i hc;exact bq (F h) λh1 h2 h3=>⟨n7 h1,h2,λr a b=>by
    by_cases u:r=k;.subst u;simpa using hc
    .exact h3 r a<|bI (dG b) u⟩
set_option tactic.hygienic true in theorem WO{ls:List<|Ln}:∀{k:Nat},yH ls k=none->∀r,r<k->lx ls r=false:=by intro I;induction I with|zero=>intro _ r a;lia|succ k F=>
  intro h r a;change(if lx ls k then Y6 k else yH ls k)=_ at h;split at h;.cases h
  .rename_i hc;by_cases u:r=k;.subst u;simpa using hc
   .exact F h r<|bI (dG a) u
theorem uE{ls:Yb<|Ln}{r:Y9}(h:lx ls r):∃F:r<ls.length,0<ls[r].length/\ls[r][ls[r].length-1]?=Y6 58:=by
 unfold lx at h;simp only[v1]at h;by_cases F:r<ls.length;.rw[r7 F]at h;replace u:=List.getLast?_eq_getElem?.symm.trans h;refine⟨F,w5 λq=>?_,u⟩;rw[q]at u;replace u:=(lU<|eJ q).symm.trans u;cases u
 .replace h:=lU (lX F)▸h;cases h
theorem WP{ls:Yb<|Ln}{r:Y9}(u:r<ls.length)(h:ls[r][ls[r].length-1]?=Y6 58):lx ls r:=by unfold lx;simp only[v1];rw[r7 u];show ls[r].getLast?=Y6 58;rw[eP];exact h
section
variable{ls:Yb<|Ln}{k j:Y9}
def ss(ls:Yb<|Ln):Yg:=⟨(kl ls).toArray⟩
theorem Nw:(ss ls).cps.size=(kl ls).length:=by simp[ss]
theorem Ny:(ss ls).length=(kl ls).length:=by simp[ss,Str.length]
theorem DZ(i:Y9):(ss ls).cps[i]?=(kl ls)[i]?:=by simp[ss]
theorem Ho(hL:nw ls)(hk:k<=ls.length){i:Y9}:ZV (ss ls) ":\n" (ld ls k) i↔∃r,r<k/\lx ls r/\i+2=ld ls (r+1):=by
 rw[WN<|by rw[Nw];exact pr,DZ,DZ,ry hL];constructor
 .rintro⟨h1,h2,r,u,h3⟩;have F:r<k:=by refine ZN.mp λh=>?_;have:=zK (ls:=ls)<|h;replace h3:=zJ u▸h3;lia
  refine⟨r,F,?_,by lia⟩;rw[zJ u]at h3;by_cases J:0<ls[r].length
  .refine WP u ?_;have e:i=ld ls r+(ls[r].length-1):=by lia
   rw[e,DY u<|by lia,fZ<|by lia]at h2;exact h2
  .have e:i+1=ld ls r:=by lia
   cases r with|zero=>rw[ou]at e;lia|succ r=>have:=(ry (j:=i) hL).mpr ⟨r,i9 (gJ F) hk,e⟩;replace h2:=this▸h2;cases h2
 .rintro⟨r,u,hc,e⟩;refine am (uE hc) λI J hv=>?_;have hm:=zK (ls:=ls)<|u;refine⟨by lia,?_,r,I,e⟩;rw[zJ I]at e;obtain e':=gg e J;rw[e',DY I<|iY _ 1,fZ<|by lia];exact hv
theorem WQ(hL:nw ls)(hk:k<=ls.length):Zc (ss ls) ":\n" 0 (ld ls k)=(yH ls k).map λj=>ld ls (j+1)-2:=by cases hc:yH ls k with|none=>refine Nv λi h=>bo ((Ho hL hk).mp h) λr h1 h2 z=>?_;rw[WO hc r h1]at h2;exact pz h2|some j=>
  refine bq (Hm hc) λh1 h2 h3=>am (uE h2) λu F z=>?_;obtain e:=zJ u;refine we ((Ho hL hk).mpr ⟨j,h1,h2,?_⟩) λi hi h=>?_;.lia
  .refine bo ((Ho hL hk).mp h) λr r1 r2 r3=>?_;clear e hL hk;rcases pW j r with q|q;.rw[h3 r q r1]at r2;exact pz r2
   .have:=zK (ls:=ls) (show r+1<=j+1 by lia);lia
theorem WR(hL:nw ls)(hj:j<ls.length){i:Y9}(h1:ld ls j<=i)(h2:i<ld ls (j+1)):kA (ss ls) "\n" 0 i+1=(ld ls j:Yh):=by
 have hi:i<=(ss ls).cps.size:=by rw[Nw];have:=pr (ls:=ls) (k:=j+1);lia
 have F:∀q,ZV (ss ls) "\n" i q->∃r,r<j/\q+1=ld ls (r+1):=by intro q h;rw[A7 hi,DZ,ry hL]at h;obtain⟨a,r,I,e⟩:=h;refine⟨r,ZN.mp λu=>?_,e⟩;have:=zK (ls:=ls)<|w6 u;lia
 unfold kA;cases j with|zero=>rw[Nv λq h=>by simp_all,ou];rfl|succ j=>
  have hp:0<ld ls (j+1):=by rw[zJ<|n6 hj];simp
  rw[we (i:=ld ls (j+1)-1)];.exact gk hp
  .rw[A7 hi,DZ,ry hL];exact⟨by lia,j,n6 hj,by lia⟩
  .intro q u h;obtain⟨r,I,e⟩:=F q h;have:=zK (ls:=ls)<|I;exact fD _<|i9 (e▸u8 _)<|g8 this<|Nat.le_of_pred_lt u
end
end Mine.Lake.Tx
namespace Mine.Lake.Tx
def nm(ls:Yb<|Ln)(k:Y9):Yj:=(mr ls k).isSome
def wR(ls:Yb<|Ln)(a b:Y9):Ln:=(eM a<|b-a).filter<|nm ls
def z0(g:Yb<|Ln)(k:Y9):Yb<|Ln:=g.dropLast++[g.getLastD []++[k]]
def tL(ls:Yb<|Ln)(k:Y9)(g:Yb<|Ln):Yb<|Ln:=if lx ls k then g++[[]]else g
def tV(ls:Yb<|Ln)(k:Y9)(g:Yb<|Ln):Yb<|Ln:=if nm ls k=Ye/\g≠[]then z0 g k else g
def tF(ls:Yb<|Ln):Y9->Yb (Ln):=@Nat.rec (λq=>Yb<|Ln) [] λk r=>tV ls k<|tL ls k r
def pb(bar:Y9->Yj)(g:Ln):Yd Y9:=g.head?.bind λr=>if bar r then Y8 else Y6 r
def qf(ls:Yb<|Ln)(bar:Y9->Yj)(n k:Y9):Yd Y9:=((tF ls k).reverse.take n).findSome?<|pb bar
def pu(ls:Yb<|Ln)(bar:Y9->Yj):Yd Y9:=if(qf ls bar 5 ls.length).isSome then((wR ls 0 ls.length).filter λk=>!bar k).getLast? else pb bar<|wR ls 0 ls.length
section
variable{ls:Yb<|Ln}{bar:Y9->Yj}{a b k r:Y9}
theorem tG{g:Yb<|Ln}{x:Ln}:z0 (g++[x]) k=g++[x++[k]]:=by unfold z0;rw[List.dropLast_concat,List.getLastD_concat]
theorem Ck(h:r∈wR ls a b):r<b/\nm ls r:=by obtain⟨h1,h2⟩:=p_.mp h;exact⟨gb<|List.mem_range'_1.mp h1,h2⟩
theorem vq:(wR ls a b).length<=b:=g8 (List.length_filter_le ..)<|by rw[List.length_range'];exact iY _ _
theorem ub(h:a<=b):wR ls a (b+1)=wR ls a b++if nm ls b then[b]else[]:=by
 unfold wR;rw[Nat.sub_add_comm h,List.range'_concat,nL,Nat.one_mul,dR h];congr 1;by_cases q:nm ls b=Ye;.rw[d9 q,iV q];rfl
 .rw[d8 q,oK q];rfl
theorem WS(h:a<=r)(u:r<b)(F:nm ls r):wR ls a b=wR ls a r++r::wR ls (r+1) b:=by unfold wR;rw[<-iV F,<-nL,<-oX,<-dl u];have:=List.range'_append (s:=a) (m:=r-a) (n:=b-r) (step:=1);rw[Nat.one_mul,dR h]at this;rw[this,v3,Nat.sub_add_sub_cancel (n6 u) h]
theorem Nz:wR ls a a=[]:=by unfold wR;rw[gV];rfl
theorem Hq(ls:Yb<|Ln):∀k:Y9,(yH ls k).elim (tF ls k=[]) λj=>j<k/\tF ls k=tF ls j++[wR ls j k]:=by intro k;induction k with|zero=>rfl|succ k F=>
  show(if lx ls k then Y6 k else yH ls k:Yd Y9).elim (tV ls k (tL ls k<|tF ls k)=[]) λj=>j<k+1/\tV ls k (tL ls k<|tF ls k)=tF ls j++[wR ls j<|k+1];unfold tL tV;by_cases hc:lx ls k=Ye
  .rw[d9 hc,d9 hc];refine⟨u8 _,?_⟩;rw[ub<|j7 _,Nz];by_cases u:nm ls k=Ye;.rw[d9 ⟨u,by simp⟩,tG,d9 u]
   .rw[d8 λq=>u q.1,d8 u];rfl
  .rw[d8 hc,d8 hc];cases hj:yH ls k with|none=>rw[hj]at F;rw[d8 λq=>q.2 F];exact F|some j=>
    rw[hj]at F;obtain⟨h1,h2⟩:=F;refine⟨dI h1,?_⟩;rw[h2,ub<|n6 h1];by_cases u:nm ls k=Ye;.rw[d9 ⟨u,by simp⟩,tG,d9 u]
    .rw[d8 λq=>u q.1,d8 u,eY]
theorem NA{n:Y9}(h:yH ls k=Y8):qf ls bar n k=Y8:=by have:=Hq ls k;rw[h]at this;unfold qf;rw[this,List.reverse_nil,nN];rfl
theorem NB{n j:Y9}(h:yH ls k=Y6 j):qf ls bar (n+1) k=match pb bar (wR ls j k)with|some r=>Y6 r|none=>qf ls bar n j:=by have:=Hq ls k;rw[h]at this;unfold qf;rw[this.2,List.reverse_append,List.reverse_singleton,rS,fO,List.findSome?_cons];cases pb bar<|wR ls j k<;>rfl
theorem WT(ls:Yb<|Ln):∀n a:Y9,match nk ls n a with|none=>wR ls a (a+n)=[]|some (r,_)=>wR ls a (a+n)=r::wR ls (r+1) (a+n):=by intro n;induction n with|zero=>exactλa=>Nz|succ n u=>intro a;obtain e:nk ls (n+1) a=match mr ls a with|some e=>Y6 (a,e)|none=>nk ls n<|a+1:=Y7;rw[e];rw[(by unfold wR;rw[dl<|ej,oX,pQ]:wR ls a (a+(n+1))=if nm ls a then a::wR ls (a+1) (a+(n+1))else wR ls (a+1)<|a+(n+1))];unfold nm;cases F:mr ls a with|some e=>exact d9 Y7|none=>have:=u<|a+1;rw[m5 a 1 n]at this;exact this
theorem NC{g:Ln}(h:pb bar g=Y6 r):r∈g/\bar r=Yc:=by cases g with|nil=>exact lz h|cons a g=>have u:(if bar a then Y8 else Y6 a)=Y6 r:=h;cases F:bar a with|true=>rw[F]at u;exact lz u|false=>rw[F]at u;obtain rfl:=c0 u;exact⟨.head _,F⟩
theorem ND:∀{n k:Y9},qf ls bar n k=Y6 r->r<k/\nm ls r/\bar r=Yc:=by intro n;induction n with|zero=>intro k h;unfold qf at h;exact lz h|succ n F=>intro k h;cases hc:yH ls k with|none=>rw[NA hc]at h;exact lz h|some j=>rw[NB hc]at h;cases u:pb bar (wR ls j k)with|none=>rw[u]at h;obtain⟨h1,h2⟩:=F h;exact⟨iE h1 (Hm hc).1,h2⟩|some a=>rw[u]at h;obtain rfl:=c0 h;obtain⟨h1,h2⟩:=NC u;exact⟨(Ck h1).1,(Ck h1).2,h2⟩
theorem tW(h:qf ls bar 5 ls.length=Y6 r):pu ls bar=Y6 (((wR ls (r+1) ls.length).filter λk=>!bar k).getLast?.getD r):=by refine bq (ND h) λI F u=>?_;unfold pu;rw[h,d9<|show(Y6 r).isSome=Ye from Y7,WS (v8 _) I F,nL,iV<|by rw[u];rfl,lP,List.getLast?_cons];rfl
theorem wf(h:pu ls bar=Y6 r):r<ls.length/\nm ls r/\bar r=Yc:=by
 by_cases q:(qf ls bar 5 ls.length).isSome=Ye;.obtain⟨h1,h2⟩:=p_.mp<|gY<|bi q h;obtain⟨h3,h4⟩:=Ck h1;exact⟨h3,h4,by simpa using h2⟩
 .obtain⟨h1,h2⟩:=NC<|bc q h;exact⟨(Ck h1).1,(Ck h1).2,h2⟩
end
end Mine.Lake.Tx
namespace Mine.Lake.L09
open PySem PySem.W PyProof.Rows Mine.Lake Mine.Lake.Rp Mine.Lake.Re MineTop
section
variable{pp:dE}{n k d:Y9}{H:Hp}{fs:ly}{σ:St}{j:Y9}{H':Hp}{a7 a8:St}{x:Yg}{iw tw:Yh}{c:Y9}{cx:Sx}{Q:Fl->St->Prop}{ns:Yb Yh}
theorem NE{v:V}{all:Yb V}{f:V->St->Rs (Yd V)}{g:V->Yd V}{H:Hp}(hi:mu H v=Y6 all):∀{l:Yb V}{σ:St},σ.h=H->(∀y∈l,∀σ:St,σ.h=H->∃σ',f y σ=.c (g y) σ'/\σ'.h=H)->∃σ',nd v all f l σ=.c (l.filterMap g) σ'/\σ'.h=H:=by intro l;induction l with|nil=>exactλ{σ}u _=>⟨σ,by rw[FJ,d9<|by rw[u];exact hi];rfl,u⟩|cons y r I=>intro σ u h;refine am (h y (.head _) σ u) λJ e1 h1=>am (I h1 λz hz=>h z<|.tail _ hz) λF e2 h2=>⟨F,?_,h2⟩;simp only[D5];rw[d9<|by rw[u];exact hi,e1];simp only[e2];simp only[List.filterMap_cons];cases g y<;>rfl
theorem NF{cx:Cx}{elt it cond:X}{x:Yg}{vi:V}{xs:Yb V}(g:V->Yd V)(hi:ev cx it σ=.c vi σ)(u:mu σ.h vi=Y6 xs)(hg:∀y∈xs,(ev cx cond ⟨σ.h,[(x,y)],σ.e,Y8⟩).F (λb aE=>zk b aE<|ev cx elt)=.c (g y) ⟨σ.h,[(x,y)],σ.e,Y8⟩)(L:(xs.filterMap g).length<=k8):ev cx (.u elt x it cond) σ=.c (.h<|xs.filterMap g) σ:=by refine bC λI=>?_;obtain⟨F,e2,h2⟩:=NE (f:=λv a8=>(ev cx cond {a8 with l:=[(x,v)],e:=σ.e,a:=Y8}).F λb aE=>zk b aE<|ev cx elt) (g:=g) u (l:=xs) (σ:=σ) Y7<|λy hy σ' J=>⟨⟨σ.h,[(x,y)],σ.e,Y8⟩,by have:({σ' with l:=[(x,y)],e:=σ.e,a:=Y8}:St)=⟨σ.h,[(x,y)],σ.e,Y8⟩:=pd J Y7;rw[this];exact hg y hy,Y7⟩;refine I ?_;rw[TV,Rs.u hi,u];show(nd vi xs _ xs σ).F _=_;rw[e2];show pf _ (Rs.c _ {σ with h:=F.h})=_;unfold pf;exact zJ5 (d9 L)<|zJ5 h2 Y7
theorem Hr{cx:Cx}{elt it:X}{x:Yg}{vi:V}{xs:Yb V}(g:V->V)(hi:ev cx it σ=.c vi σ)(F:mu σ.h vi=Y6 xs)(hg:∀y∈xs,ev cx elt ⟨σ.h,[(x,y)],σ.e,Y8⟩=.c (g y) ⟨σ.h,[(x,y)],σ.e,Y8⟩)(u:xs.length<=k8):ev cx (.u elt x it<|.C Ye) σ=.c (.h<|xs.map g) σ:=by obtain h:=NF (elt:=elt) (cond:=.C Ye) (λy=>Y6<|g y) hi F λy hy=>by show(ev cx elt _).F _=_;rw[hg y hy];rfl (by rw[mZ];rw[n5];exact u);rw[mZ]at h;exact h
def fs2(iw tw:Yh):ly:=[("indentwidth",.d iw),("tabwidth",.d tw)]
theorem wg{iw tw:Yh}:AO (fs2 iw tw) iw tw:=⟨⟨2,j7 _,by decide,by show(["indentwidth","tabwidth"]:Yb Yg)=_;decide+kernel⟩,Y7,Y7⟩
theorem WU{k d:Y9}{iw tw:Yh}(F:PO H k d []):∃σ',zS mq (T pp n) 172 [.g k,.d iw,.d tw] H=.c .none σ'/\σ'.h=km H d (.dict<|fs2 iw tw):=by
 refine bC λI=>?_;obtain main:∀σ:St,σ.l=(["self","indentwidth","tabwidth"]:Yb Yg).zip [.g k,.d iw,.d tw]->σ.h=H->Gd (ex Go (T pp n) σ) λf σ'=>f=.a/\σ'.h=km H d (.dict<|fs2 iw tw):=by
  intro σ u h4;obtain h1:σ.I "self"<|.g k:=by unfold St.I;rw[u];rfl
  rw[<-h4]at F⊢;exact qF<|xW (qA<|by rw[u];rfl) (qA h1) (F.J bT iu<|v8 _)<|qF<|xW (qA<|by rw[u];rfl) (qA h1) ((F.N).J bT iu<|by show 1<=100;decide)<|qC ⟨Y7,C9⟩
 obtain⟨f,σ',e,rfl,e2⟩:=main (oh _ H) Y7 Y7;refine I ?_;exact⟨σ',wW (by rfl) Y7 e Y7,e2⟩
theorem NG{iw tw:Yh}:∃σ',(T pp<|n+2).i (.m<|.ref 266) [.d iw,.d tw] H=.c (.g<|H.n+1) σ'/\PO σ'.h (H.n+1) H.n (fs2 iw tw)/\σ'.n=H.n+2/\∀i,i<H.n->σ'.o i=H.o i:=by
 obtain h0:PO ((H.add<|.dict []).add<|.c 266 H.n) (H.n+1) H.n []:=⟨d9 Y7,bk (Nat.succ_ne_self _).symm<|bj Y7 Y7,Nat.succ_ne_self _⟩;refine am (WU (pp:=pp) (n:=n) (iw:=iw) (tw:=tw) h0) λσ' e1 e2=>⟨σ',?_,?_⟩;.show Df (qd pp) (zS mq (T pp n) 172) (zS mq<|T pp<|n+1) 266 [.d iw,.d tw] H=_;refine(d9 Y7).trans ?_;unfold uk;exact zJ5 e1 Y7
 .rw[e2];refine⟨h0.N,Y7,λi hi=>?_⟩;rw[qE<|v9 hi];exact bk (v9<|dI hi)<|bk (v9 hi) Y7
def qs(H H':Hp):Prop:=H.n<=H'.n/\∀i,i<H.n->H'.o i=H.o i
theorem qs.F{H H' H'':Hp}(h:qs H H')(u:qs H' H''):qs H H'':=⟨g8 h.1 u.1,λi hi=>(u.2 i<|i9 hi h.1).trans<|h.2 i hi⟩
theorem qs.I{H:Hp}:qs H H:=⟨j7 _,λq q=>Y7⟩
theorem NH{f a:X}{vf v r:V}(u:ev (T pp n).c f σ=.c vf σ)(F:ev (T pp n).c a σ=.c v σ)(h:(T pp n).i vf [v] σ.h=nj r σ.h):ev (T pp n).c (.n f<|.d a .l) σ=.c r σ:=zE (σ':={h:=σ.h,l:=[]}) u (qD F Y7) h
theorem Cl{a:X}{v:V}{i:Yh}(u:ev (T pp n).c a σ=.c v σ)(h:Bn v σ.h=nj (.d i) σ.h):ev (T pp n).c (.n (.g "len")<|.d a .l) σ=.c (.d i) σ:=NH (qQ<|Bv bT) u<|by rw[bT.a,Du,h]
theorem E0{α:Type}{xs:Yb α}{k:Y9}:qh xs Y8 (Y6 (k:Yh))=xs.take k:=by
 show(xs.drop 0).take (Z5 xs.length (k:Yh)-0)=_;rw[jK,sH,sW];by_cases h:k<=xs.length;.rw[w7 h]
 .rw[fE<|gS h,dW<|j7 _,dW<|gS h]
theorem WV{α:Type}{xs:Yb α}{k:Y9}:qh xs (Y6 (k:Yh)) Y8=xs.drop k:=by
 show(xs.drop<|clipAt xs.length (k:Yh)).take (xs.length-Z5 xs.length (k:Yh))=_;rw[jK];by_cases h:k<=xs.length;.rw[w7 h,dW<|by rw[r9];exact j7 _]
 .rw[fE<|gS h,gV,rY,lE<|gS h]
theorem A8{x:Yg}{c:Y9}{v:V}{cx:Cx}(h:σ.e.lookup x=Y6 c)(u:σ.o c=Y6 (.cell<|some v)):ev cx (.F x) σ=.c v σ:=by rw[TL,h];show(match σ.o c with|some<|.cell<|some v=>Rs.c v σ|_=>.b)=_;exact zJ5 u Y7
theorem Hs{cx:Cx}{a b:X}{x y:Yh}(F:ev cx a σ=.c (.d x) σ)(u:ev cx b σ=.c (.d y) σ)(h:y≠0):ev cx (.t .Mod a b) σ=.c (.d<|x.fmod y) σ:=uM F u<|d8 h
theorem Ht{b:Y9}(u:0<b)(a:Yh):∃k:Y9,k<b/\a.fmod b=(k:Yh):=⟨(a.fmod b).toNat,by simp[u,Int.fmod_lt_of_pos a (b:=(b:Yh))<|by simp[u]],Int.eq_natCast_toNat.mpr<|Int.fmod_nonneg_of_pos a (b:=(b:Yh))<|by simp[u]⟩
theorem WW{cx:Cx}{op:CmpOp}{a b:X}{x y v:V}(F:ev cx a σ=.c x a7)(u:ev cx b a7=.c y a8)(h:wM a8.h op x y=.b v):ev cx (.j op a b) σ=.c v a8:=by refine zJ5 Lw<|zJ5 (Rs.u F)<|zJ5 (Rs.u u)<|zJ5 h ?_;rfl
theorem E1{l:Yb Yg}{i:Y9}{r:Yg}(hi:i<=1000)(h:l[i]?=Y6 r):qw H (.h<|l.map .f) (.d (i:Y9))=.b (.f r):=xV (xs:=l.map V.f) (j:=i) Y7 Y7 (vG (by simp)<|sZ Y7 Y7 hi) (vL<|by rw[n5];exact(Yv.mp h).1)<|by rw[iW,h];rfl
theorem WX{α:Type}{xs:Yb α}{a:α}:qh (xs++[a]) Y8 (Y6<|-1)=xs:=by
 show((xs++[a]).drop 0).take (Z5 (xs++[a]).length (-1)-0)=_;have:Z5 (xs++[a]).length (-1)=xs.length:=by unfold Z5;exact zJ5 j9<|zJ5 (d9 iu) gm
 simp only[this,sH,sW,oT]
theorem NI:rg "join"=Y6 "str.join":=by rfl
theorem WY{a b:V}:nz "str.split" [a,b] H=BZ a b H:=Y7
theorem NJ{a b:V}:nz "str.join" [a,b] H=Bq a b H:=Y7
theorem WZ{l:Yb Yg}{y:Yg}(h1:i_ "" l=y)(h2:JoinOk "" l)(h3:kU y):Bq (.f "") (.h<|l.map .f)=λH=>nj (.f y) H:=by subst h1;funext H;show(BY<|l.map .f).elim Rs.b (λu=>if(JoinOk "" u&&kU (i_ "" u))=Ye then nj (.f<|Txt.join "" u) H else .b)=_;rw[(by intro I;induction I with|nil=>exact  Y7|cons a l F=>show(BY<|l.map .f).map (a::·)=_;erw[F];rfl:∀l:Yb Yg,BY (l.map .f)=Y6 l)];exact d9<|by rw[h2,h3];rfl
theorem NK{x:Yg}{i:Yh}:yO H (.f x) (.d i) .none=.b (.f ⟨(qh x.cps.toList (Y6 i) Y8).toArray⟩):=Y7
theorem kW{cx:Cx}{a b:X}{x:V}{xs:Yb V}{a8:St}(F:ev cx a σ=.c x a7)(u:ev cx b a7=.c (.h xs) a8):ev cx (.d a b) σ=.c (.h<|x::xs) a8:=by refine zJ5 LB<|zJ5 (Rs.u F)<|zJ5 (Rs.u u) ?_;rfl
theorem X1{cx:Cx}{es:X}{xs:Yb V}(h:ev cx es σ=.c (.h xs) a7)(u:xs.length<=k8):ev cx (.r es) σ=.c (.h xs) a7:=by rw[Ly,Rs.u h];exact d9 u
set_option tactic.hygienic true in theorem NL{x:Str}{e:X}{u v r:V}(F:σ.l.lookup x=some u)(I:ev cx.c e σ=.c v a7)(J:uj u v=.b r)(h:Q .a<|a7.F x r):Gd (ex (.A x e) cx σ) Q:=by refine⟨.a,_,zJ5 U0<|zJ5 (Rs.u<|qA (cx:=cx.c) F)<|zJ5 (Rs.u I)<|zJ5 J ?_,h⟩;rfl
theorem wV{x:Yg}{c:Y9}{o:Yd V}{v:V}(h:σ.e.lookup x=Y6 c)(u:σ.o c=Y6 (.cell o)):σ.L x v=Y6 {σ with h:=km σ.h c<|.cell<|some v}:=by unfold St.L;erw[h];show(if Jr (σ.o c)then _ else _)=_;erw[u];rfl
theorem Hu{f:YF}{sc:Yt}{ps:Yb Yg}{b:S}{args:Yb V}{F:Fl}{σ':St}{v:V}(J:f≠266/\f≠78/\(zr f).isNone)(u:mq.lookup f=Y6 (sc,ps,b))(I:args.length=ps.length)(L:ex b (T pp n) (li sc (ps.zip args) H)=.c F σ')(N:sk F σ'=.c v σ'):(T pp<|n+1).i (.m<|.ref f) args H=.c v σ':=by rw[jM J];unfold zS;rw[u];show sx sc ps b (T pp n) args H=_;unfold sx;rw[d9 I,Rs.u L,N]
theorem Hv{cx:Cx}{it cond:X}{x:Yg}{vi:V}{xs:Yb V}(P:V->Yj)(hi:ev cx it σ=.c vi σ)(F:mu σ.h vi=Y6 xs)(hg:∀y∈xs,ev cx cond ⟨σ.h,[(x,y)],σ.e,Y8⟩=.c (.j<|P y) ⟨σ.h,[(x,y)],σ.e,Y8⟩)(u:xs.length<=1000):ev cx (.u (.v x) x it cond) σ=.c (.h<|xs.filter P) σ:=by obtain h:=NF (elt:=.v x) (cond:=cond) (λy=>if P y then Y6 y else Y8) hi F λy hy=>by erw[hg y hy];cases P y with|false=>rfl|true=>show(ev cx (.v x) ⟨σ.h,[(x,y)],σ.e,Y8⟩).F _=_;erw[qA (v:=y)<|by show n3 x [(x,y)]=_;rw[n3,iI]];rfl (g8 (List.length_filterMap_le ..)<|g8 u iu);rw[(by intro J;induction J with|nil=>exact  Y7|cons a l I=>simp only[List.filterMap_cons,pQ,I];cases P a<;>rfl:∀l:Yb Mine.Lake.V,l.filterMap (λy=>if P y then Y6 y else Y8)=l.filter P)]at h;exact h
end
def tx(l:Ln):Yg:=⟨l.toArray⟩
theorem E2{a b:Yg}:a++b=tx (a.cps.toList++b.cps.toList):=Str.rl<|by show(a.cps++b.cps).toList=_;simp[tx]
theorem X2(u:Yb Yg):(i_ "" u).cps.toList=(u.map (·.cps.toList)).flatten:=by rw[(by decide+kernel:("":Yg)=⟨#[]⟩)];unfold i_ Builtin.Str.glued;cases u with|nil=>rfl|cons x r=>dsimp only[List.drop,List.headD];rw[(by intro l;induction l with|nil=>intro acc;simp|cons x r F=>intro acc;rw[rH,F];simp:∀(l:Yb Yg)(acc:Yp Y9),(l.foldl (λacc p=>acc++(⟨#[]⟩:Yg).cps++p.cps) acc).toList=acc.toList++(l.map (·.cps.toList)).flatten)];rfl
theorem X3(l:Yb Yg)(n:Y9):l.foldl (λa(x:Yg)=>a+x.length+("":Yg).length) n=n+(l.map (·.cps.toList)).flatten.length:=by induction l generalizing n with|nil=>rfl|cons x r u=>rw[rH,u,(by decide+kernel:("":Yg).length=0),gH,pD,j9];have:x.cps.toList.length=x.length:=n8;rw[this];exact m3 n x.length<|(List.map (λx=>x.cps.toList) r).flatten.length
theorem wB{l:Ln}(h:∀c∈l,c<128)(u:l.length<=1000):tB<|tx l:=⟨h,by show l.toArray.size<=1000;exact zJ5 dT u⟩
theorem Hw{x:Yg}(h:tB x):kU x:=by unfold kU;rw[uR h.1,pG];exact i7<|g8 h.2 iu
end Mine.Lake.L09
namespace Mine.Lake.L09
open PySem PySem.W PyProof.Rows Mine.Lake Mine.Lake.Rp Mine.Lake.Re MineTop Mine.Lake.Tx
def BB(ls:Yb<|Ln)(o:Yd Y9):V:=o.elim .none λr=>.d (ld ls r:Y9)
def mR(ls:Yb<|Ln)(o:Yd<|Nat×Y9):V:=ul<|o.map λx=>(ld ls x.1,ld ls x.1+x.2)
section
variable{pp:dE}{n k d:Y9}{σ:St}{ls:Yb<|Ln}{vt:V}{bar:Y9->Yj}{H:Hp}{fs:ly}
def AX(pp:dE)(n:Y9)(vt:V)(ls:Yb<|Ln)(bar:Y9->Yj)(H:Hp):Prop:=∀r,r<ls.length->∃σ',(T pp n).i vt [.d (ld ls r:Y9)] H=.c (.j<|bar r) σ'/\σ'.h=H
theorem X4{args:Yb V}(n:Y9):(T pp n).i (.m<|.ref 78) args H=rf args H:=by obtain key:∀r:Rs V,(if(78:Y9)=78 then rf args H else r)=rf args H:=λr=>d9 Y7;match n with|0=>exact key<|K4 78 args H|1=>exact key<|zS mq (T pp 0) 78 args H|n+2=>exact key<|Df (qd pp) (zS mq (T pp n) 172) (zS mq<|T pp<|n+1) 78 args H
theorem E3{p e:Y9}{m:Yg}{i:YA}{v:V}(h:σ.I "m"<|.t p e)(hm:Dd m=Y6 i)(hv:nz i [.t p e] σ.h=nj v σ.h):ev (T pp n).c (.m "m" m .l) σ=.c v σ:=qT (σ':={h:=σ.h,l:=[]}) (qA h) (by erw[bT.c];show pV (λi:YA=>(V.m<|.builtin i,[V.t p e])) (Dd m)=_;erw[hm];rfl) (xs:=[]) Y7<|(bT.a ..).trans hv
theorem NM{e:X}{r:Y9}(u:AX pp n vt ls bar σ.h)(hv:σ.I "is_char_in_string" vt)(F:ev (T pp n).c e σ=.c (.d (ld ls r:Y9)) σ)(I:r<ls.length):ev (T pp n).c (.J<|.n "is_char_in_string"<|.d e .l) σ=.c (.j !bar r) σ:=am (u r I) λσ' e1 e2=>Mq ((zE (qA hv) (qD F Y7) e1).trans<|by rw[e2]) Y7
theorem NN{o:Yd<|Nat×Y9}(F:AX pp n vt ls bar σ.h)(hv:σ.I "is_char_in_string" vt)(hm:σ.I "m"<|mR ls o)(u:∀x,o=Y6 x->x.1<ls.length):ev (T pp n).c Gx σ=.c (o.elim .none λx=>.j !bar x.1) σ:=by refine vx.trans<|(Rs.u<|qA hm).trans ?_;cases o with|none=>rfl|some x=>exact NM F hv (E3 hm (i:="re.Match.start") Y7 Y7)<|u x Y7
theorem Hx{as:X}{vs:Yb V}{is:Yb Yh}{r:Yd<|Nat×Y9}{a l:Y9}(u:ev (T pp n).c as σ=.c (.h<|.f (ss ls)::vs) σ)(hi:AG vs=Y6 is)(hp:-2^63<=zB is/\zB is<2^63/\-2^63<=zC is/\zC is<2^63)(h1:Ze (zB is).toNat (kl ls).length=a)(h2:Ze (zC is).toNat (kl ls).length=l)(hs:xJ (kl ls).toArray me a l=r):ev (T pp n).c (.n (.g "_synchre") as) σ=.c (ul r) σ:=by refine zE (σ':={h:=σ.h,l:=[]}) (qQ<|by erw[bT.b];rfl) u<|(X4 n).trans ?_;show(AG vs).elim Rs.b _=_;refine zJ5 hi<|(d9 hp).trans ?_;refine zJ5 h1<|zJ5 h2 ?_;erw[hs];cases r<;>rfl
theorem X5(hL:Tx.nw ls)(F:(kl ls).length<=900){a k:Y9}(hk:k<=ls.length)(u:a<=k)(h1:σ.I "code"<|.f<|ss ls)(h2:σ.I "i"<|.d (ld ls a:Y9))(h3:σ.I "limit"<|.d (ld ls k:Y9)):ev (T pp n).c (.n (.g "_synchre")<|.d "code"<|.d "i"<|jm "limit") σ=.c (mR ls<|Tx.nk ls (k-a) a) σ:=by obtain e:∀j,ld ls j<=900:=λj=>g8 pr F;exact Hx (is:=[(ld ls a:Yh),(ld ls k:Yh)]) (qD (qA h1)<|qD (qA h2)<|qD (qA h3) Y7) Y7 ⟨da,db<|e a,da,db<|e k⟩ (w7 pr) (w7 pr)<|jP hL hk u (j7 _) λr I=>Hl I<|g8 u hk
theorem NO(h:(kl ls).length<=900):Ze (2^63-1:Yh).toNat (kl ls).length=ld ls ls.length:=(fE<|g8 h iu).trans si.symm
theorem X6(hL:Tx.nw ls)(u:(kl ls).length<=900)(h1:σ.I "code"<|.f<|ss ls):ev (T pp n).c (.n (.g "_synchre")<|jm "code") σ=.c (mR ls<|Tx.nk ls ls.length 0) σ:=Hx (vs:=[]) (is:=[]) (qD (qA h1) Y7) Y7 iu (Nat.zero_min _) (NO u)<|jP hL (j7 _) (v8 _) (v8 _) λr F=>Oo F
theorem X7(hL:Tx.nw ls)(u:(kl ls).length<=900){a p:Y9}(I:a<=ls.length)(hp:p<=ld ls a)(F:∀r,r<a->ld ls r<p)(h1:σ.I "code"<|.f<|ss ls)(h2:σ.I "i"<|.d (p:Y9)):ev (T pp n).c (.n (.g "_synchre")<|.d "code"<|jm "i") σ=.c (mR ls<|Tx.nk ls (ls.length-a) a) σ:=by obtain e:p<=(kl ls).length:=g8 hp pr;exact Hx (vs:=[.d (p:Y9)]) (is:=[(p:Yh)]) (qD (qA h1)<|qD (qA h2) Y7) Y7 ⟨da,db<|g8 e u,(by decide:-2^63<=(2^63-1:Yh)/\(2^63-1:Yh)<2^63)⟩ (w7 e) (NO u)<|jP hL (j7 _) I hp F
theorem NP{y:Yg}{e:X}{i:Y9}(hc:σ.I "code"<|.f<|ss ls)(u:ev (T pp n).c e σ=.c (.d (i:Y9)) σ)(hi:i<=(kl ls).length):ev (T pp n).c (.m "code" "rfind"<|.d (.h y)<|.d (.k 0)<|.d e .l) σ=.c (.d<|kA (ss ls) y 0 i) σ:=qT (σ':=⟨σ.h,[],[],Y8⟩) (qA hc) (zV bT<|by rfl) (qD Y7<|qD Y7<|qD u Y7)<|by rw[bT.a];show nz "str.rfind" [.f<|ss ls,.f y,.d 0,.d i] _=_;show nj (.d<|kA (ss ls) y (Re.mc (ss ls).length 0)<|min (Re.mc (ss ls).length (i:Y9)) (ss ls).length) _=_;rw[vC,Ny,w7 hi];rfl
def X8(ls:Yb<|Ln)(vt pos:V):Yb<|Str×V:=[("code",.f<|ss ls),("is_char_in_string",vt),("pos",pos)]
def Fr(H:Hp)(σ:St)(ls:Yb<|Ln)(vt pos:V):Prop:=Fx σ H<|X8 ls vt pos
theorem NQ{a k r e:Y9}(h:Tx.nk ls (k-a) a=Y6 (r,e))(u:a<=k)(hk:k<=ls.length):r<ls.length:=i9 (dR u▸(yM h).2.1) hk
theorem Hy{a k:Y9}(u:a<=k):match Tx.nk ls (k-a) a with|none=>wR ls a k=[]|some (r,_)=>wR ls a k=r::wR ls (r+1) k:=by have:=WT ls (k-a) a;rw[dR u]at this;exact this
def X9(H:Hp)(ls:Yb<|Ln)(vt:V)(bar:Y9->Yj)(R:Yd Y9)(l:Yb V)(σ:St):Prop:=∃k,k<=ls.length/\Fr H σ ls vt .none/\σ.I "limit" (.d (ld ls k:Y9))/\qf ls bar l.length k=R
theorem Xa(V:AX pp n vt ls bar H)(hL:Tx.nw ls)(N:(kl ls).length<=900)(F:Fr H σ ls vt .none)(I:σ.I "limit"<|.d (ld ls ls.length:Y9)):Gd (ex KW (T pp n) σ) λf σ'=>f=.a/\Fr H σ' ls vt (BB ls<|qf ls bar 5 ls.length):=by
 generalize U:qf ls bar 5 ls.length=R;refine Do (v:=.q 0 5 1) (xs:=[.d 0,.d 1,.d 2,.d 3,.d 4]) (NH (qQ<|by erw[bT.b];rfl) Y7<|by rw[DA,yN,UF];exact d9 jg) Y7
  (X9 H ls vt bar R) ⟨ls.length,j7 _,F,I,U⟩ (λz z z=>Y7) ?_ ?_;.rintro y r σ⟨k,hk,F,I,hG⟩;obtain u:=(F.N I).I "tries" y;generalize σ.F "tries" y=σ at u⊢;obtain hG:qf ls bar (r.length+1) k=R:=hG;refine zA u (NP (u.g "code" Y7) (qA<|u.g "limit" Y7) pr) ?_;rw[(by unfold kA;rw[WQ hL hk];cases yH ls k<;>rfl:kA (ss ls) ":\n" 0 (ld ls k)=match yH ls k with|some j=>((ld ls (j+1)-2:Y9):Yh)|none=>-1)];cases hc:yH ls k with|none=>refineλσ u=>qM (t:=Ye) (uL (x:=-1) (y:=0) (qA<|u.g "i" Y7) Y7) (λz=>qF<|Mine.Lake.q9 ?_) λq=>su q;rw[NA hc]at hG;exact⟨Y7,hG▸show Fr H σ ls vt .none from u.L<|by rfl⟩|some j=>
   refine bq (Hm hc) λL S X=>am (uE S) λhj O z=>?_;obtain hs:=zJ hj;obtain hle:ld ls j<=ld ls (j+1)-2:=by rw[hs];exact fY<|i8 (m9 O) _
   obtain hlt:ld ls (j+1)-2<ld ls (j+1):=iO (by rw[hs];exact eG _) iu;dsimp only;generalize ld ls (j+1)-2=q at hle hlt⊢;refineλσ u=>qM (t:=Yc) (by rw[uL (qA<|u.g "i" Y7) Y7,n9<|Int.not_lt.mpr<|cD q]) (λq=>pz q) λz=>?_;refine zA u (v:=.d (ld ls j:Y9)) (by rw[<-WR hL hj hle hlt];exact qS (NP (u.g "code" Y7) (qA<|u.g "i" Y7)<|g8 (n6 hlt) pr) Y7) λσ u=>zA u (X5 hL N hk (n6 L) (u.g "code" Y7) (u.g "i" Y7)<|u.g "limit" Y7) ?_;rw[NB hc]at hG;obtain hw:=Hy (ls:=ls)<|n6 L;obtain ho:∀x,Tx.nk ls (k-j) j=Y6 x->x.1<ls.length:=λx h=>NQ (e:=x.2) h (n6 L) hk;generalize Tx.nk ls (k-j) j=o at hw ho⊢;intro σ u;have F:Fr H σ ls vt .none:=u.L (by rfl);have hm:σ.I "m"<|mR ls o:=u.g "m" Y7;obtain hi:=u.g "i" Y7;obtain he:=NN (F.1▸V) (F.g "is_char_in_string" Y7) hm ho;have go:qf ls bar r.length j=R->Gd (ex (.d (.a "limit" "i") .g) (T pp n) σ) (LQ (λσ=>∃k,k<=ls.length/\Fr H σ ls vt .none/\σ.I "limit" (.d (ld ls k:Y9))/\qf ls bar r.length k=R) λf σ'=>f=.a/\Fr H σ' ls vt (BB ls R)):=λh=>kb (qA hi)<|qC ⟨j,n6 hj,F.F "limit" _ Y7,qH,h⟩;clear hi ho I hlt hle hs;cases o with|none=>refine qK<|zL he Y7 (λq=>pz q) λz=>qC ?_;rw[hw]at hG;exact go hG|some x=>obtain⟨b,e⟩:=x;rw[hw]at hG;cases J:bar b with|true=>refine qK<|zL (t:=Yc) he (by show Y6 (!bar b)=_;rw[J];rfl) (λq=>pz q) λz=>qC<|go ?_;rw[show pb bar (b::wR ls (b+1) k)=Y8 from d9 J]at hG;exact hG|false=>refine qK<|zL (t:=Ye) he (by show Y6 (!bar b)=_;rw[J];rfl) (λz=>kb (E3 hm (i:="re.Match.start") Y7 Y7)<|qF<|Mine.Lake.q9 ?_) λq=>su q;rw[show pb bar (b::wR ls (b+1) k)=Y6 b from d8<|by rw[J];decide]at hG;exact⟨Y7,hG▸F.J⟩
 .rintro σ⟨k,hk,F,I,hG⟩;exact⟨Y7,hG▸F⟩
theorem Xb(J:AX pp n vt ls bar H)(hL:Tx.nw ls)(I:(kl ls).length<=900)(u:Fr H σ ls vt .none):Gd (ex KY (T pp n) σ) λf σ'=>f=.b (BB ls<|pb bar<|wR ls 0 ls.length)/\σ'.h=H:=by refine kb (X6 hL I<|u.g "code" Y7) ?_;obtain hw:=Hy (ls:=ls)<|v8 ls.length;obtain ho:∀x,Tx.nk ls (ls.length-0) 0=Y6 x->x.1<ls.length:=λx h=>NQ (e:=x.2) h (v8 _)<|j7 _;generalize Tx.nk ls ls.length 0=o at hw ho⊢;obtain u:Fr H _ ls vt _:=u.F "m" (mR ls o) Y7;obtain hm:=@qH σ "m"<|mR ls o;generalize σ.F "m" (mR ls o)=σ at u hm⊢;obtain he:=NN (u.1▸J) (u.g "is_char_in_string" Y7) hm ho;clear ho J hL I;cases o with|none=>refine qK<|zL he Y7 (λq=>pz q) λz=>qC ?_;rw[hw];exact qF<|zY (qA<|u.g "pos" Y7) ⟨Y7,u.1⟩|some x=>obtain⟨b,e⟩:=x;rw[hw];cases F:bar b with|true=>refine qK<|zL (t:=Yc) he (by show Y6 (!bar b)=_;rw[F];rfl) (λq=>pz q) λz=>qC ?_;rw[show pb bar (b::wR ls (b+1) ls.length)=Y8 from d9 F];exact qF<|zY (qA<|u.g "pos" Y7) ⟨Y7,u.1⟩|false=>refine qK<|zL (t:=Ye) he (by show Y6 (!bar b)=_;rw[F];rfl) (λz=>kb (E3 hm (i:="re.Match.start") Y7 Y7)<|qC ?_) λq=>su q;rw[show pb bar (b::wR ls (b+1) ls.length)=Y6 b from d8<|by rw[F];decide];exact qF<|zY (qA qH) ⟨Y7,u.1⟩
def NR(ls:Yb<|Ln)(vt:V)(bar:Y9->Yj)(H:Hp)(R m:Y9)(σ:St):Prop:=∃a p pos,a<=ls.length/\p<=ld ls a/\(∀r,r<a->ld ls r<p)/\Fr H σ ls vt (.d (ld ls pos:Y9))/\σ.I "i" (.d (p:Y9))/\((wR ls a ls.length).filter λk=>!bar k).getLast?.getD pos=R/\ls.length-a<m
theorem Xc(hA:AX pp n vt ls bar H)(hL:Tx.nw ls)(N:(kl ls).length<=900){a:Y9}(h1:a<ls.length)(u:Fr H σ ls vt<|.d (ld ls a:Y9))(hi:σ.I "i"<|.d ((ld ls a+1:Y9):Yh)):Gd (ex KZ (T pp n) σ) λf σ'=>f=.a/\Fr H σ' ls vt (.d (ld ls<|((wR ls (a+1) ls.length).filter λk=>!bar k).getLast?.getD a:Y9)):=by
 generalize hR:((wR ls (a+1) ls.length).filter λk=>!bar k).getLast?.getD a=R;obtain hln:ls.length<1000:=r5 (g8 (by have:=si (ls:=ls);rw[<-this];exact(λn=>by induction n with|zero=>exactλz=>v8 _|succ n Z=>exactλh=>r5 (Z<|n6 h)<|Hl (u8 n) h:∀n,n<=ls.length->n<=ld ls n) _<|j7 _) N) iu;refine xB (NR ls vt bar H R)
  ⟨a+1,ld ls a+1,a,h1,Hl (u8 a) h1,λr I=>w6<|zK<|dG I,u,hi,hR,r5 (iY _ _) hln⟩ ?_;rintro m σ⟨a,p,pos,h1,h2,h3,u,hi,hG,hlt⟩;refine bC λF=>?_;obtain⟨m,rfl⟩:∃k,m=k+1:=⟨m-1,(iT<|r5 (v8 _) hlt).symm⟩;refine F ?_;refine⟨m,Y7,?_⟩;obtain hs:=X7 (n:=n) (pp:=pp) hL N h1 h2 h3 (u.g "code" Y7) hi;obtain hw:=Hy (ls:=ls) h1;have U:∀x,Tx.nk ls (ls.length-a) a=Y6 x->a<=x.1/\∃I:x.1<ls.length,0<x.2/\x.2<=ls[x.1].length:=λx h=>by refine bC λF=>?_;obtain⟨L,V,S,w4⟩:=yM (e:=x.2) h;obtain⟨I,X,Y⟩:=sr S;refine F ?_;exact⟨L,I,i9 iu X,Y⟩
 generalize Tx.nk ls (ls.length-a) a=o at hs hw U;refine bC λF=>?_;obtain hev:(ev _ _ σ).F (λv a7=>Rs.c v<|a7.F "m" v)=_:=Rs.u hs;obtain u:Fr H _ ls vt _:=u.F "m" (mR ls o) Y7;obtain hm:=@qH σ "m"<|mR ls o;refine F ?_;cases o with|none=>refine⟨_,_,Yc,hev,Y7,λq=>pz q,λz=>qC ⟨Y7,?_⟩⟩;rw[hw]at hG;exact hG▸u|some x=>refine bC λF=>?_;obtain⟨r,e⟩:=x;obtain⟨L,I,V,S⟩:=U _ Y7;refine F ?_;rw[hw]at hG;refine⟨_,_,Ye,hev,Y7,λz=>qF<|C5 (E3 hm (i:="re.Match.span") Y7 Y7) ?_,λq=>su q⟩;generalize σ.F "m" (mR ls<|some (r,e))=σ at u⊢;refine bC λF=>?_;obtain hs:=@qG (σ.F "s"<|.d (ld ls r:Y9)) "i" "s" (.d ((ld ls r+e:Y9):Yh)) _ iu qH;obtain hi:=@qH (σ.F "s"<|.d (ld ls r:Y9)) "i"<|.d ((ld ls r+e:Y9):Yh);obtain u:Fr H ((σ.F "s"<|.d (ld ls r:Y9)).F "i"<|.d ((ld ls r+e:Y9):Yh)) ls vt _:=(u.F "s" (.d (ld ls r:Y9)) Y7).F "i" _ Y7;refine F ?_;generalize(σ.F "s"<|.d (ld ls r:Y9)).F "i" (.d ((ld ls r+e:Y9):Yh))=σ at u hs hi⊢;have O:∀{σ:St}{pos:Y9},Fr H σ ls vt (.d (ld ls pos:Y9))->σ.I "i" (.d ((ld ls r+e:Y9):Yh))->((wR ls (r+1) ls.length).filter λk=>!bar k).getLast?.getD pos=R->NR ls vt bar H R m σ:=λ{σ pos}f1 f2 f3=>⟨r+1,ld ls r+e,pos,I,by rw[zJ I];exact n7<|i8 S _,λq hq=>r5 (zK<|dG hq)<|dH V,f1,f2,f3,i9 (Nat.sub_lt_sub_left (r5 L I)<|w6 L)<|dG hlt⟩;obtain he:=NM (u.1▸hA) (u.g "is_char_in_string" Y7) (qA hs) I;cases J:bar r with|true=>rw[J]at he;refine qK<|zL he Y7 (λq=>pz q) λz=>qC<|qC ?_;rw[oK<|by rw[J];decide]at hG;exact O u hi hG|false=>rw[J]at he;refine qK<|zL he Y7 (λz=>kb (qA hs)<|qC<|qC ?_) λq=>su q;rw[iV<|by rw[J];rfl,List.getLast?_cons]at hG;exact O u.J (ru hi) hG
theorem Xd(J:AX pp n vt ls bar H)(hL:Tx.nw ls)(u:(kl ls).length<=900)(N:PO H k d fs)(hc:fs.lookup ("code":Yg)=Y6 (.f<|ss ls)):∃σ',(T pp<|n+1).i (.m<|.ref 186) [.g k,vt] H=.c (BB ls<|pu ls bar) σ'/\σ'.h=H:=by
 refine jV (·=H) iu (by rfl) Y7 λσ L h3=>?_;obtain h1:σ.I "self"<|.g k:=by unfold St.I;rw[L];rfl
 obtain h2:σ.I "is_char_in_string" vt:=by unfold St.I;rw[L];rfl
 refine qF<|C5 (zt (qD (qR (qA h1)<|h3.symm▸N.I bT iu hc Y7)<|qD Y7 Y7)<|by show 2<=k8;decide) ?_;obtain hF:Fr H ((σ.F "code"<|.f<|ss ls).F "pos" .none) ls vt .none:=(((Fx.O h3 h2).I "code" _).I "pos" _).L (by rfl);generalize(σ.F "code"<|.f<|ss ls).F "pos" .none=σ at hF⊢;refine kb (Cl (qA<|hF.g "code" Y7)<|by rw[si,<-Ny];rfl)<|qF<|(Xa J hL u (hF.F "limit" _ Y7) qH).mono ?_;rintro f σ'⟨rfl,hF⟩;dsimp only;cases F:qf ls bar 5 ls.length with|none=>rw[F]at hF;rw[(by unfold pu;rw[F];exact xb:pu ls bar=pb bar (wR ls 0 ls.length))];refine qK<|zL (t:=Ye) (zR (v:=.j Ye) (qA<|hF.g "pos" Y7) (Y7:ev (T pp n).c .none σ'=.c .none σ') Y7) Y7 (λz=>(Xb J hL u hF).mono ?_) λq=>su q;rintro f I⟨rfl,h⟩;exact⟨Y7,h⟩|some r=>rw[F]at hF;rw[tW F];refine qM (t:=Yc) (zR (qA<|hF.g "pos" Y7) (Y7:ev (T pp n).c .none σ'=.c .none σ') Y7) (λq=>pz q) λz=>?_;refine kb (v:=.d ((ld ls r+1:Y9):Yh)) (qS (y:=1) (qA<|hF.g "pos" Y7) Y7)<|qF<|(Xc J hL u (ND F).1 (hF.F "i" _ Y7) qH).mono ?_;rintro f I⟨rfl,hF⟩;exact qF<|zY (qA<|hF.g "pos" Y7) ⟨Y7,hF.1⟩
end
end Mine.Lake.L09
namespace Mine.Lake.L09
open PySem PySem.W PyProof.Rows Mine.Lake Mine.Lake.Rp Mine.Lake.Re MineTop
def ms(l:Ln):Yb<|Ln:=(ti l).1::(ti l).2
def jX(l:Ln):Yb<|Ln:=(ms l).dropLast.map (·++[10])
theorem NS(l:Ln):ms (10::l)=[]::ms l:=by exact Y7
theorem NT{c:Y9}(h:c≠10)(l:Ln):ms (c::l)=(c::(ti l).1)::(ti l).2:=by obtain e:ti (c::l)=(c::(ti l).1,(ti l).2):=d8 h;unfold ms;exact zJ5 e Y7
theorem jA:∀l:Ln,(ms l).length=l.count 10+1/\∀p∈ms l,p.length<=l.length/\(∀c∈p,c∈l)/\10∉p:=by intro F;induction F with|nil=>exact  ⟨Y7,λp hp=>by rw[Yw.mp hp];exact⟨j7 _,λq h=>tq h,λh=>tq h⟩⟩|cons c l u=>
  refine cg u λh1 h2=>?_;by_cases hc:c=10
  .subst hc;rw[NS,yv];refine⟨i6 sA h1,λp hp=>?_⟩;rcases Yn.mp hp with rfl|hp;.exact⟨v8 _,λq h=>tq h,λh=>tq h⟩
   .exact⟨n7 (h2 p hp).1,λc hc=>.tail _<|(h2 p hp).2.1 c hc,(h2 p hp).2.2⟩
  .rw[NT hc,vz hc];refine⟨h1,λp hp=>?_⟩;rcases Yn.mp hp with rfl|hp;.exact bq (h2 _<|.head _) λh3 h4 h5=>⟨m9 h3,λd hd=>(Yn.mp hd).elim (λz=>z▸.head _) λz=>.tail _<|h4 d z,λz=>(Yn.mp z).elim (λz=>hc z.symm) h5⟩
   .exact bq (h2 p<|.tail _ hp) λh3 h4 h5=>⟨n7 h3,λd hd=>.tail _<|h4 d hd,h5⟩
theorem Xe:∀(l:Ln)(r:Y9),qa l->((jX l).take r).flatten=la l r:=by intro F;induction F with|nil=>intro r _;have:jX []=[]:=Y7;rw[this,nN];rfl|cons c l u=>exact fun
   |0,_=>Y7|r+1,hn=>by
    obtain hn':=hn.F<|u3 c l;by_cases hc:c=10;·subst hc;rw[(by unfold jX;rw[NS];rfl:jX (10::l)=[10]::jX l),fO,pD,u r hn'];rfl
    ·obtain hne:=hn.J hc;obtain ih:=u (r+1) hn';obtain e3:la (c::l) (r+1)=c::la l (r+1):=i6 (λz=>c::la l z)<|d8 hc;rw[e3,<-ih];cases hs:(ti l).2 with
      |nil=>
        exfalso;have e:jX l=[]:=by unfold jX ms;rw[hs];rfl
        have h1:=(xR l 1<|List.count_pos_iff.mpr<|hn'.I hne).2;have h2:=u 1 hn';rw[e,nN]at h2;rw[<-h2]at h1;cases h1|cons a b=>rw[(by unfold jX;rw[NT hc,hs];rfl:jX (c::l)=(c::(ti l).1++[10])::(a::b).dropLast.map (·++[10])),(by unfold jX ms;rw[hs];rfl:jX l=((ti l).1++[10])::(a::b).dropLast.map (·++[10]))];rfl
def mn(l:Ln):Yb<|Ln:=(ms l).dropLast
theorem Cm(l:Ln):(mn l).length=l.count 10:=by unfold mn;rw[lO,(jA l).1];rfl
theorem Hz{l:Ln}(h:qa l)(g:Y9):Tx.kl ((mn l).take g)=la l g:=by rw[<-Xe l g h];unfold Tx.kl jX;rw[sN];rfl
theorem Cn{l:Ln}(h:qa l):Tx.kl (mn l)=l:=by have:=Hz h<|l.count 10;rw[<-Cm l,List.take_length,Cm]at this;obtain hd:=zW (l:=l)<|j7<|l.count 10;rw[this];conv=>rhs;rw[<-qU l<|l.count 10,(eO λq=>by have:=YZ.mpr<|(h.F<|qO l _).I q;lia:kd l (l.count 10)=[]),eY]
theorem NU{l:Ln}(h:qa l)(g:Y9):Tx.kl ((mn l).drop g)=kd l g:=by
 obtain h1:Tx.kl ((mn l).take g)++Tx.kl ((mn l).drop g)=l:=by rw[<-Tx.oq,eW,Cn h]
 conv at h1=>rhs;rw[<-qU l g]
 rw[Hz h g]at h1;exact List.append_cancel_left h1
section
variable{H:Hp}{l:Ln}
open StrLaws PySem.Builtin PySem.Builtin.Str in
theorem Xf(h1:∀c∈l,c<128)(h2:l.length<=900):BZ (.f (tx l)) (.f "\n") H=nj (.h (((ms l).map tx).map .f)) H:=by
 obtain hs:=Ua (x:=tx l);obtain e1:oJ (tx l) ⟨#[10]⟩=(ms l).map tx:=(by
   intro a b u
   subst u
   rw[iX]
   have:tx∘(λx:Yg=>x.cps.toList)=_root_.id:=funext λx=>Str.rl Y7
   rw[this,nW]:∀(a:Yb Yg)(b:Yb (Ln)),a.map (·.cps.toList)=b->a=b.map tx) _ _ hs
 obtain⟨p1,p2⟩:=jA l;obtain p1':(ms l).length<=l.length+1:=by rw[p1];exact m9 iN
 show(if vY (tx l) "\n"=Ye then nj (.h ((oJ (tx l) "\n").map .f)) H else .b)=_;rw[AN];obtain hsz:k8=16777216:=by decide
 rw[d9 (by
  unfold vY
  rw[(by
  rw[(Dn (x:=tx l) (y:=[10]) iu),rJ]
  obtain hp':=i6 Ys (LG (tx l).cps.toList 0 0 Y7 (j7 _) (v8 _) (x:=tx l))
  rw[n5,m4]at hp'
  exact hp':(o_ (tx l) (d_ (tx l) ⟨#[10]⟩ 0 (tx l).length ((tx l).length+1)) (⟨#[10]⟩:Yg).length).length=(ms l).length),e1,n5]
  rw[j0,j0,j0]
  refine⟨⟨⟨Y7,i7 (fb h2 p1' hsz)⟩,i7 (fb h2 p1' hsz)⟩,?_⟩
  rw[lK]
  intro y hy
  obtain⟨r,F,rfl⟩:=YD.mp hy
  exact bq (p2 r F) λm1 m2 q=>Hw (wB (λc hc=>h1 c (m2 c hc)) (g8 m1 (bx h2)))),e1]
theorem NV{ls:Yb<|Ln}(h:∀c∈ls.flatten,c<128)(u:ls.flatten.length<=900):Bq (.f "") (.h<|(ls.map tx).map .f)=λH=>nj (.f<|tx ls.flatten) H:=by
 obtain e2:(ls.map tx).map (·.cps.toList)=ls:=by rw[iX];have:(λx:Yg=>x.cps.toList)∘tx=_root_.id:=Y7;rw[this,nW]
 refine WZ (Str.rl ?_) ?_<|Hw<|wB h<|g8 u iu;.rw[X2,e2];rfl
 .unfold JoinOk;rw[List.foldl_toArray,X3,e2];unfold mB;rw[fU,mM,nU];exact YR.mpr<|by rw[fA];exact bx u
end
def toks:Yb Yg:=["def f:\n","else\n"," try: ","\n",":\n","'","\"","'''","\"\"\"\n","(","[",")","]\n","\\","\\\n","#"," ","x"," = ","\treturn\n","{\n","}","#\n\n","a\n"]
def z3:Yb Yg:=["a\nelse\n","","",""]
def wi:Yb Yg:=["try:\n","\n","x\n","'''\n"]
def nb:Ln->Yj:=lr Ye λc l r=>c !=98&&c !=99&&c !=105&&c !=95&&!(c==97&&l.head?==Y6 115)&&r
theorem HA:∀{a b:Ln},nb (a++b)->nb b:=by intro a b h;induction a with|nil=>exact h|cons c a F=>have u:(_&&nb (a++b))=Ye:=h;rw[j0]at u;exact F u.2
theorem HB:∀{a b:Ln},nb (a++b)->nb a:=by intro a b h;induction a with|nil=>rfl|cons c a F=>have u:(c !=98&&c !=99&&c !=105&&c !=95&&!(c==97&&(a++b).head?==Y6 115)&&nb (a++b))=Ye:=h;show(c !=98&&c !=99&&c !=105&&c !=95&&!(c==97&&a.head?==Y6 115)&&nb a)=Ye;rw[j0]at u|-;refine⟨?_,F u.2⟩;cases a with|nil=>have:=u.1;simp only[j0]at this|-;exact⟨this.1,by cases c==97<;>rfl⟩|cons d a=>exact u.1
theorem NW:∀{a b:Ln},nb a->nb b->a.getLast?≠Y6 97->nb (a++b):=by intro a b;induction a with|nil=>exactλq h q=>h|cons c a I=>intro h F hs;have u:(c !=98&&c !=99&&c !=105&&c !=95&&!(c==97&&a.head?==Y6 115)&&nb a)=Ye:=h;show(c !=98&&c !=99&&c !=105&&c !=95&&!(c==97&&(a++b).head?==Y6 115)&&nb (a++b))=Ye;rw[j0]at u|-;cases a with|nil=>have:=u.1;rw[Yl.mpr λz=>hs<|by rw[z];rfl]at this|-;exact⟨this,F⟩|cons d a=>exact⟨u.1,I u.2 F λz=>hs<|by exact z⟩
theorem NY:∀{l:Ln}{c:Y9},nb l->c∈l->c≠95:=by intro l c h hm;induction l with|nil=>exact tq hm|cons d l F=>
  have u:(d !=98&&d !=99&&d !=105&&d !=95&&_&&nb l)=Ye:=h;simp only[j0,nK]at u;rcases Yn.mp hm with rfl|hm;.exact u.1.1.2
  .exact F u.2 hm
def Co(l:Ln):Yj:=Yk (l.length<=8)&&l.all (λc=>Yk<|c<128)&&(nb l&&l.getLast? !=Y6 97)
theorem Xg:∀t∈wi,Co t.cps.toList&&t.cps.toList.getLast?==Y6 10:=jg
theorem HC{l:Ln}(h:Co l):l.length<=8/\(∀c∈l,c<128)/\nb l/\l.getLast?≠Y6 97:=by unfold Co at h;rw[j0,j0,j0,lK,t4,nK]at h;exact⟨h.1.1,λc hc=>k9<|h.1.2 c hc,h.2⟩
structure tM(l:Ln):Prop where
 d:∀c∈l,c<128
 a:l.length<=200
 e:nb l=Ye
 b:l.getLast?=Y6 10
theorem NZ:∀{u:Yb Yg},(∀t∈u,t∈toks)->(∀c∈(u.map (·.cps.toList)).flatten,c<128)/\(u.map (·.cps.toList)).flatten.length<=8*u.length/\∀b:Ln,nb b->nb ((u.map (·.cps.toList)).flatten++b):=by intro N;induction N with|nil=>exactλq=>⟨λq h=>tq h,j7 _,λq h=>h⟩|cons t u F=>intro h;refine bq (F λt O=>h t<|.tail _ O) λh1 h2 h3=>bz (HC<|(by decide+kernel:∀t∈toks,Co t.cps.toList=Ye) t<|h t<|.head _) λh4 h5 J I=>?_;simp only[gH,pD,j9,m4];exact⟨λc hc=>(Yz.mp hc).elim (h5 c)<|h1 c,by rw[v3];exact dS h2 h4,λb L=>by rw[v5];exact NW J (h3 b L) I⟩
theorem Xh{a b:Yg}{u:Yb Yg}(S:a∈z3)(L:b∈wi)(U:∀t∈u,t∈toks)(X:u.length<=18):tM<|a.cps.toList++((u.map (·.cps.toList)).flatten++b.cps.toList):=by
 refine bz (HC<|(by decide+kernel:∀t∈z3,Co t.cps.toList=Ye) a S) λh1 h2 O J=>?_;obtain h4:=Xg b L;rw[j0,v1]at h4;refine bz (HC h4.1) λh5 T I q=>bq (NZ U) λN V F=>?_;refine⟨λc hc=>?_,?_,NW O (F _ I) J,?_⟩
 .rcases Yz.mp hc with z|z;.exact h2 c z
  .exact(Yz.mp z).elim (N c)<|T c
 .refine zJ5 j9<|zJ5 j9 ?_;lia
 .rw[<-v5,lP,h4.2];rfl
section
variable{pp:dE}{n:Y9}{H:Hp}{σ:St}{ns:Yb Yh}
theorem Xi{a:Yh}:Ay H .FloorDiv (.d a) (.d 4)=.b (.d<|a.fdiv 4):=by show(if(0:Yh)<4/\(4:Yh)<1000 then Ov.b<|V.d (a.fdiv 4)else .a)=_;exact d9 iu
def A9(i:Yh):Yg:=toks.getD (i.fmod 24).toNat ""
theorem O0(i:Yh):∃k:Y9,i.fmod 24=(k:Yh)/\toks[k]?=Y6 (A9 i)/\k<24:=by refine am (Ht (b:=24) iu i) λk h1 h2=>⟨k,h2,?_,h1⟩;have u:i.fmod 24=(k:Yh):=h2;unfold A9;rw[u,eH,v4,r7<|h1];rfl
def O1:V->V|.d i=>.f<|A9 i|v=>v
theorem z4(h1:σ.I "script"<|.h<|ns.map .d){c:Y9}(h2:σ.e.lookup ("tokens":Yg)=Y6 c)(h3:σ.o c=Y6 (.cell<|some<|.h<|toks.map .f)):ev (T pp n).c GA σ=.c (.h<|((ns.take 18).map A9).map .f) σ:=by obtain e2:=Hr (elt:=.q (.F "tokens")<|.t .Mod "x"<|.k 24) (x:="x") O1 (by refine vK (qA h1) Y7 Y7 ?_;show Ov.b (.h<|qh (ns.map V.d) Y8<|some ((18:Y9):Yh))=_;rw[E0,sN]:ev (T pp n).c (.z "script" .none<|.k 18) σ=.c (.h<|(ns.take 18).map .d) σ) Y7 (λv hv=>by refine am (YD.mp hv) λi hi F=>?_;subst F;refine bo (O0 i) λk I u J=>xE (A8 h2 h3) (Hs (qA Y7) (y:=24) Y7 iu) ?_;rw[I];exact E1 (g8 (n6 (Yv.mp u).1) iu) u) (by rw[n5,dF];exact g8 (mL _ _) iu);rw[(by rw[iX,iX];rfl:((ns.take 18).map V.d).map O1=((ns.take 18).map A9).map .f)]at e2;exact e2
theorem O2{l:Yb Yg}{k:Y9}(hk:k<l.length):∃r,l[k]?=Y6 r/\r∈l:=⟨_,r7 hk,gT _⟩
theorem Xj(hn:ns.length<=63):∃l σ',tM l/\(T pp<|n+1).i (.m<|.ref 275) [.h<|ns.map .d] H=.c (.f<|tx l) σ'/\qs H σ'.h:=by
 obtain main:∃l,tM l/\Gd (ex GB (T pp n)<|li pj ((["script"]:Yb Yg).zip [.h<|ns.map .d]) H) λf σ'=>f=.b (.f<|tx l)/\qs H σ'.h:=by
  obtain h1:(li pj ((["script"]:Yb Yg).zip [.h<|ns.map .d]) H).I "script"<|.h<|ns.map .d:=by rfl
  have h2:(li pj ((["script"]:Yb Yg).zip [.h<|ns.map .d]) H).h=H.add (.cell Y8):=by rfl
  obtain h3:(li pj ((["script"]:Yb Yg).zip [.h<|ns.map .d]) H).e=[(("tokens":Yg),H.n)]:=by rfl
  generalize li pj ((["script"]:Yb Yg).zip [.h<|ns.map .d]) H=σ at h1 h2 h3⊢;have hc:σ.e.lookup ("tokens":Yg)=Y6 H.n:=by erw[h3];rfl
  refine am (Ht (b:=4) iu<|(ns.length:Yh).fdiv 4) λk1 L X=>am (Ht (b:=4) iu (ns.length:Yh)) λk2 U Z=>am (O2 (l:=z3) L) λa a1 a2=>am (O2 (l:=wi) U) λb S b2=>?_;have I:∀t∈(ns.take 18).map A9,t∈toks:=λt I=>by refine am (YD.mp I) λi q Y=>?_;subst Y;exact bo (O0 i) λk q k2 q=>nX k2
  have J:((ns.take 18).map A9).length<=18:=by rw[n5,dF];exact mL _ _
  obtain hT:=Xh a2 b2 I J;refine⟨_,hT,?_⟩;generalize N:(ns.take 18).map A9=ts at I J hT;obtain hlen:=hT.a;rw[j9,j9]at hlen;obtain⟨O,a7,_⟩:=NZ I;refine qF<|yB (xP Y7 iu:ev (T pp n).c (.r<|.d (.h "def f:\n")<|.d (.h "else\n")<|.d (.h " try: ")<|.d (.h "\n")<|.d (.h ":\n")<|.d (.h "'")<|.d (.h "\"")<|.d (.h "'''")<|.d (.h "\"\"\"\n")<|.d (.h "(")<|.d (.h "[")<|.d (.h ")")<|.d (.h "]\n")<|.d (.h "\\")<|.d (.h "\\\n")<|.d (.h "#")<|.d (.h " ")<|.d (.h "x")<|.d (.h " = ")<|.d (.h "\treturn\n")<|.d (.h "{\n")<|.d (.h "}")<|.d (.h "#\n\n")<|.d (.h "a\n") .l) σ=.c (.h<|toks.map .f) σ) (wV hc<|by erw[h2];exact d9 Y7) ?_;have u:({σ with h:=km σ.h H.n<|.cell<|some<|.h<|toks.map .f}:St).I "script"<|.h<|ns.map .d:=h1;have F:({σ with h:=km σ.h H.n<|.cell<|some<|.h<|toks.map .f}:St).e.lookup ("tokens":Yg)=Y6 H.n:=hc;obtain g3:({σ with h:=km σ.h H.n<|.cell<|some<|.h<|toks.map .f}:St).o H.n=Y6 (.cell<|some<|.h<|toks.map .f):=d9 Y7;obtain g4:qs H ({σ with h:=km σ.h H.n<|.cell<|some<|.h<|toks.map .f}:St).h:=by
   refine⟨?_,λi hi=>?_⟩;.erw[h2];exact fM _
   .refine(qE<|v9 hi).trans ?_;erw[h2];exact d8<|v9 hi
  generalize({σ with h:=km σ.h H.n<|.cell<|some<|.h<|toks.map .f}:St)=σ at u F g3 g4⊢;obtain hln:∀{σ:St},σ.I "script" (.h<|ns.map .d)->ev (T pp n).c Gy σ=.c (.d (ns.length:Y9)) σ:=λh=>Cl (qA h) (by show nj (.d ((ns.map V.d).length:Y9)) _=_;rw[n5]);refine kb (v:=.f a) (xE (xP (xs:=z3.map .f) Y7 iu) (Hs (uM (hln u) Y7 Xi) (y:=4) Y7 iu) ?_) ?_;.erw[X];exact E1 (bu L) a1
  obtain f1:=@qH σ "text"<|.f a;obtain u:=@qG σ "text" "script" (.f a) _ iu u;obtain F:(σ.F "text"<|.f a).e.lookup ("tokens":Yg)=Y6 H.n:=F;obtain g3:(σ.F "text"<|.f a).o H.n=_:=g3;obtain g4:qs H (σ.F "text"<|.f a).h:=g4;generalize σ.F "text" (.f a)=σ at f1 u F g3 g4⊢;obtain hcp:=z4 (pp:=pp) (n:=n) u F g3;rw[N]at hcp;obtain hj:ev (T pp n).c (.m (.h "") "join"<|.d GA .l) σ=.c (.f<|tx (ts.map (·.cps.toList)).flatten) σ:=qT (σ':={h:=σ.h,l:=[]}) (vo:=.f "") Y7 (zV bT NI) (qD hcp Y7) (by rw[bT.a];refine zJ5 NJ<|zJ5 (by rw[iX (f:=λx:Yg=>x.cps.toList)];have:tx∘(λx:Yg=>x.cps.toList)=_root_.id:=funext λx=>Str.rl Y7;rw[this,nW]:ts.map V.f=((ts.map (·.cps.toList)).map tx).map V.f)<|zJ5 (NV O<|by lia) ?_;rfl);obtain hta:(tx (ts.map (·.cps.toList)).flatten).length=(ts.map (·.cps.toList)).flatten.length:=dT ..;obtain hal:a.length=a.cps.toList.length:=ZY.symm;obtain hbl:b.length=b.cps.toList.length:=ZY.symm;refine qF<|NL f1 hj (d9<|by refine zJ5 nU ?_;lia) ?_;obtain f2:=@qH σ "text"<|.f<|a++tx (ts.map (·.cps.toList)).flatten;obtain u:=@qG σ "text" "script" (.f<|a++tx (ts.map (·.cps.toList)).flatten) _ iu u;obtain g4:qs H (σ.F "text"<|.f<|a++tx (ts.map (·.cps.toList)).flatten).h:=g4;generalize σ.F "text" (.f<|a++tx (ts.map (·.cps.toList)).flatten)=σ at f2 u g4⊢;refine qF<|zY (uM (y:=.f b) (qA f2) (xE (xP (xs:=wi.map .f) Y7 iu) (Hs (hln u) (y:=4) Y7 iu) ?_) ?_) ⟨Y7,g4⟩;.erw[Z];exact E1 (g8 (n6 (Yv.mp S).1) iu) S
  .refine pd (by rw[E2,E2];show tx (a.cps.toList++_++b.cps.toList)=_;rw[v5];rfl:a++tx (ts.map (·.cps.toList)).flatten++b=tx (a.cps.toList++((ts.map (·.cps.toList)).flatten++b.cps.toList))) ?_;exact d9<|by refine zJ5 (by rw[E2];show(S_ _).size=_;rw[dT,j9];rfl:(a++tx (ts.map (·.cps.toList)).flatten).length=a.cps.toList.length+(ts.map (·.cps.toList)).flatten.length)<|zJ5 nU ?_;lia
 obtain⟨l,hl,f,σ',e,rfl,w⟩:=main;exact⟨l,σ',hl,Hu iu (by rfl) Y7 e Y7,w⟩
end
end Mine.Lake.L09
namespace Mine.Lake.Tx
open PySem PySem.Sre Mine.Lake.Re
open Mine.Lake.L09 (nb HB HA NY x8 yu)
def wj(l:Ln):Ln:=(l.dropWhile mf).takeWhile u2
def tH:Yb<|Ln:=[[100,101,102],[101,108,115,101],[116,114,121],[114,101,116,117,114,110]]
theorem us:∀w∈me,w≠[]/\∀c∈w,u2 c:=by intro w u;have:=Yx.mp (by decide+kernel:me.all (λw=>!w.isEmpty&&w.all u2)=Ye) w u;rw[j0,fU,List.isEmpty_eq_false_iff,lK]at this;exact this
theorem HD:∀w∈me,nb w->w∈tH:=jg
theorem Aa:∀w∈tH,w∈me:=jg
theorem z5:∀{w v:Ln},(∀c∈v,isWordUni c=u2 c)->(∀c∈w,u2 c)->(w.isPrefixOf v&&yu (v.drop w.length))=(v.takeWhile u2==w):=by intro w;induction w with
 |nil=>intro v hv _;cases v with|nil=>rfl|cons c v=>show(Ye&&!isWordUni c)=_;rw[v6,hv c<|.head _];cases u2 c<;>rfl
 |cons d w u=>intro v hv h;cases v with|nil=>rfl|cons c v=>
   show(d==c&&_&&_)=_;rw[v6,sF];by_cases e:d=c;.subst e;rw[d9<|h d<|.head _];exact i6 (_&&·)<|u (λc m=>hv c<|.tail _ m) λc m=>h c<|.tail _ m
   .rw[Yl.mpr e];cases u2 c with|true=>show Yc=(c==d&&_);rw[Yl.mpr λq=>e q.symm];rfl|false=>rfl
theorem Xk{v:Ln}(hv:∀c∈v,isWordUni c=u2 c):∀u:Yb<|Ln,(∀w∈u,∀c∈w,u2 c)->(x8 v u).isSome=u.contains (v.takeWhile u2):=by intro u;induction u with|nil=>exactλq=>Y7|cons w u F=>intro h;show(if _ then Y6 _ else x8 v u).isSome=_;rw[z5 hv<|h w<|.head _,List.contains_cons,<-F λw m=>h w<|.tail _ m];cases v.takeWhile u2==w<;>rfl
theorem ut{ls:Yb<|Ln}{k:Y9}{l:Ln}(hk:ls[k]?=Y6 l)(u:nb l):nm ls k=tH.contains (wj l):=by
 unfold nm mr;rw[hk];show(yz l).isSome=_;unfold yz;rw[Option.isSome_map,Xk (λc m=>?_) me λw m=>(us w m).2];.refine Zt.mpr ?_;rw[rU,rU];refine⟨λh=>HD _ h ?_,λh=>Aa _ h⟩;rw[<-r8 (p:=mf) (l:=l),<-r8 (p:=u2) (l:=l.dropWhile mf)]at u;exact HB<|HA u
 .show(u2 _||_==95)=_;rw[Yl.mpr<|NY u<|(eF _).subset m,Bool.or_false]
theorem y5{ls:Yb<|Ln}{k:Y9}{l:Ln}(hk:ls[k]?=Y6 l)(u:nb<|kl ls):nb l:=by obtain⟨h,rfl⟩:=Yv.mp hk;rw[uA h]at u;exact HB<|HA u
end Mine.Lake.Tx
namespace Mine.Lake.L09
open PySem PySem.W PyProof.Rows Mine.Lake Mine.Lake.Rp Mine.Lake.Re MineTop
section
variable{pp:dE}{n:Y9}{H:Hp}{σ:St}{l:Ln}{cx:Cx}{k d j:Y9}{H':Hp}{fs:ly}{x:Yg}{iw tw:Yh}{c:Y9}{gl:Ln}{r2:R2}{s:Y9}{y:Yg}{lv:Yh}
theorem Xl{a b:V}:nz "str.count" [a,b] H=Dc a b H:=Y7
theorem E4(l:Ln):(tx l).length=l.length:=dT ..
theorem Xm:gO (tx<|l++[10]) " \t"=tx (l.dropWhile mf++[10]):=by
 refine Str.rl ?_;unfold gO Txt.stripBy;rw[(by rw[(by decide:(" \t":Yg).cps=#[32,9])];funext c;unfold mf;simp[Bool.beq_eq_decide_eq]:(" \t":Yg).cps.contains=mf)];refine bC λF=>?_;obtain⟨h1,h2⟩:=Tx.y3 (f:=mf) Y7 [] l;obtain hlo:stripLo mf Ye (tx<|l++[10])=((l++[10]).takeWhile mf).length:=Y7;have u:∀k,stripHi mf Yc (tx<|l++[10]) k=(l++[10]).length:=λk=>E4 _;obtain e:(l++[10]).drop ((l++[10]).takeWhile mf).length=l.dropWhile mf++[10]:=by rw[<-h2];have:=@gZ _ ((l++[10]).takeWhile mf)<|(l++[10]).dropWhile mf;rw[r8]at this;exact this
 refine F ?_;by_cases h:stripSame mf Ye Yc (tx<|l++[10])=Ye;.rw[d9 h];unfold stripSame at h;rw[hlo,j0,v1]at h;rw[h.1]at e;exact e
 .rw[d8 h];unfold PySem.stripped;rw[hlo,u,Mine.Lake.Rp.qe];show((l++[10]).drop _).take _=_;rw[dW<|by rw[r9];exact j7 _,e];rfl
theorem Xo(b:Ln):∃c r,b++[10]=b.takeWhile u2++c::r/\u2 c=Yc:=by induction b with|nil=>exact⟨10,[],Y7,by decide+kernel⟩|cons d b u=>
  refine bw u λc r h1 h2=>?_;erw[v6];cases h:u2 d;.exact⟨d,b++[10],Y7,h⟩
  .exact⟨c,r,by refine zJ5 nP<|zJ5 h1 ?_;rfl,h2⟩
def Xp(b w:Ln)(H:Hp)(k:Y9)(σ:St):Prop:=∃e,σ.I "bare" (.f<|tx b)/\σ.I "end" (.d ((e:Y9):Yh))/\σ.h=H/\e<=w.length/\w.length-e<k
theorem Xq(h1:∀c∈l,c<128)(h2:l.length<=200):∃σ',(T pp<|n+1).i (.m<|.ref 282) [.f<|tx<|l++[10]] H=.c (.f<|tx<|Tx.wj l) σ'/\σ'.h=H:=by
 refine jV (·=H) iu (by rfl) Y7 λσ I J=>?_;obtain g1:σ.I "row"<|.f<|tx<|l++[10]:=by unfold St.I;rw[I];rfl
 obtain hb:∀c∈l.dropWhile mf++[10],c<128:=λc hc=>(Yz.mp hc).elim (λhc=>h1 c<|(eF _).subset hc) λhc=>by rw[Yw.mp hc];decide
 have u:(l.dropWhile mf++[10]).length<=201:=by rw[j9];exact m9<|g8 (Bz l) h2
 refine kb (qT (σ':={h:=σ.h,l:=[]}) (qA g1) (zV bT<|by rfl) (qD Y7 Y7)<|by rw[bT.a];show nz "str.lstrip" [.f<|tx<|l++[10],.f " \t"] _=_;show(if kU<|gO (tx<|l++[10]) " \t"then nj (.f<|gO (tx<|l++[10]) " \t") σ.h else .b)=_;rw[Xm,d9<|Hw<|wB hb<|g8 u iu];rfl) ?_;show Gd (ex _ (T pp n) _) λf σ'=>sk f σ'=.c (.f<|tx<|(l.dropWhile mf).takeWhile u2) σ'/\_;obtain hT:∀c∈(l.dropWhile mf).takeWhile u2,u2 c=Ye:=λc hc=>Yx.mp List.all_takeWhile c hc;refine bw (Xo<|l.dropWhile mf) λc r e1 e2=>?_;generalize(l.dropWhile mf).takeWhile u2=w at e1 hT⊢;generalize l.dropWhile mf++[10]=b at e1 hb u⊢;refine kb (v:=.d ((0:Y9):Yh)) Y7 ?_;obtain f1:=@qG (σ.F "bare"<|.f<|tx b) "end" "bare" (.d ((0:Y9):Yh)) _ iu qH;obtain f2:=@qH (σ.F "bare"<|.f<|tx b) "end"<|.d ((0:Y9):Yh);have f3:((σ.F "bare"<|.f<|tx b).F "end"<|.d ((0:Y9):Yh)).h=H:=J;generalize(σ.F "bare"<|.f<|tx b).F "end" (.d ((0:Y9):Yh))=σ at f1 f2 f3⊢;obtain hm:w.length<b.length:=by rw[e1,j9];exact dH<|eG _
 refine qK<|xB (Xp b w H)
  ⟨0,f1,f2,f3,v8 _,by lia⟩ ?_;rintro k σ⟨e,f1,f2,f3,he,hk⟩;obtain⟨k,rfl⟩:∃j,k=j+1:=⟨k-1,by lia⟩;have F:∀{d:Y9}{r:Ln},b.drop e=d::r->ev (T pp n).c (.m (.q "bare" "end") "isalnum" .l) σ=.c (.j<|u2 d) σ:=λ{d r}h=>qT (σ':={h:=σ.h,l:=[]}) (xE (qA f1) (qA f2)<|Dt (by exact g8 u iu)<|show(tx b).cps.toList.drop e=d::r from h) (zV bT<|by rfl) (xs:=[]) Y7 (by rw[bT.a];show nz "str.isalnum" [.f ⟨#[d]⟩] _=_;show nj (.j<|Txt.isalnum ⟨#[d]⟩) _=_;rw[(by show(Yk (1>0)&&(#[d]:Yp Y9).all u2)=_;simp:Txt.isalnum ⟨#[d]⟩=u2 d)];rfl);by_cases q:e=w.length;.refine⟨k,Y7,_,σ,Yc,(F<|by rw[q,e1,gZ]).trans<|by rw[e2],Y7,λq=>pz q,λz=>qC<|qF<|zY (vK (qA f1) (Y7:ev (T pp n).c .none σ=.c .none σ) (qA f2) ?_) ⟨Y7,f3⟩⟩;show Ov.b (.f ⟨(qh b Y8<|some ((e:Y9):Yh)).toArray⟩)=_;rw[E0,q,e1,oT];rfl
 .obtain hlt:=bI he q;refine⟨k,Y7,_,σ,Ye,(F (by rw[e1,List.drop_append_of_le_length he,<-nP,List.getElem_cons_drop]:b.drop e=w[e]::(w.drop (e+1)++c::r))).trans<|by rw[hT _<|gT hlt],Y7,λz=>?_,λq=>su q⟩;exact qF<|NL f2 Y7 Y7<|qC ⟨e+1,ru f1,qH,f3,hlt,by lia⟩
theorem Xr{elt it:X}{x y:Yg}{vi:V}{xs:Yb V}(g:V->V)(hi:ev cx it σ=.c vi σ)(u:mu σ.h vi=Y6 xs)(hg:∀v∈xs,∃l,Bf x y v=Y6 l/\ev cx elt ⟨σ.h,l,σ.e,Y8⟩=.c (g v) ⟨σ.h,l,σ.e,Y8⟩)(L:xs.length<=k8):ev cx (.w elt x y it) σ=.c (.h<|xs.map g) σ:=by refine bC λI=>?_;obtain⟨F,e2,h2⟩:=NE (f:=λv a8=>(Bf x y v).elim Rs.b λl=>(ev cx elt {a8 with l:=l,e:=σ.e,a:=Y8}).F λr aE=>.c (Y6 r) aE) (g:=λv=>Y6<|g v) u (l:=xs) (σ:=σ) Y7 (λv hv σ' J=>by refine am (hg v hv) λl h1 h3=>⟨⟨σ.h,l,σ.e,Y8⟩,?_,Y7⟩;rw[h1];show(ev cx elt {σ' with l:=l,e:=σ.e,a:=Y8}).F _=_;rw[(by rw[<-J]:({σ' with l:=l,e:=σ.e,a:=Y8}:St)=⟨σ.h,l,σ.e,Y8⟩),h3];rfl);refine I ?_;rw[TY,Rs.u hi,u];show(nd vi xs _ xs σ).F _=_;rw[e2];show pf _ (Rs.c _ {σ with h:=F.h})=_;unfold pf;exact zJ5 mZ<|zJ5 (d9<|by rw[n5];exact L)<|zJ5 h2 Y7
theorem PO.T(h:PO H k d fs)(hk:H'.o k=H.o k)(hd:H'.o d=H.o d):PO H' k d fs:=⟨hk.trans h.b,hd.trans h.dict,h.c⟩
theorem sy.F(h:sy H k d fs iw tw x gl c)(u:H.n<=H'.n)(hs:∀i,i=k\/i=d->H'.o i=H.o i):sy H' k d fs iw tw x gl c:=⟨h.e.T (hs k<|.inl Y7)<|hs d<|.inr Y7,i9 h.k u,i9 h.d u,h.fs,h.a,h.b,h.f⟩
theorem zx.F(h:zx H k d iw tw x gl c fs)(u:H.n<=H'.n)(hs:∀i,i<H.n->(∀es,H.o i=Y6 (.dict es)->i=d)->H'.o i=H.o i):zx H' k d iw tw x gl c fs:=by
 refine cc h.st λj h1 h2 h3 h4=>⟨h.a.T (hs k h.k λes z=>?_)<|hs d h.d λq q=>Y7,⟨j,h1,(hs j h4 λes z=>?_).trans h2,h3,i9 h4 u⟩,i9 h.k u,i9 h.d u⟩;.replace z:=h.a.b.symm.trans z;cases z
 .replace z:=h2.symm.trans z;cases z
theorem pg.I(h:pg H k d iw tw x gl c r2 fs)(u:H.n<=H'.n)(hs:∀i,i<H.n->(∀es,H.o i=Y6 (.dict es)->i=d)->H'.o i=H.o i):pg H' k d iw tw x gl c r2 fs:=by
 refine cc h.st λj h1 h2 h3 h4=>⟨h.a.T (hs k h.k λes z=>?_)<|hs d h.d λq q=>Y7,⟨j,h1,(hs j h4 λes z=>?_).trans h2,h3,i9 h4 u⟩,i9 h.k u,i9 h.d u⟩;.obtain z:=h.a.b.symm.trans z;exact by cases z
 .obtain z:=h2.symm.trans z;exact by cases z
theorem pg.F(h:pg H k d iw tw x gl c r2 fs)(hs:qs H H'):pg H' k d iw tw x gl c r2 fs:=h.I hs.1 λi hi q=>hs.2 i hi
theorem O3{i:Yh}{n k:Y9}(h:(if i<0 then i+n else i)=(k:Yh))(hk:k<n):YL i n=Y6 k:=by show(if(Yk (0<=if i<0 then i+n else i)&&Yk ((if i<0 then i+n else i)<(n:Yh)))=Ye then Y6 (if i<0 then i+n else i).toNat else Y8)=_;refine zJ5 h<|zJ5 (i7<|Int.ofNat_lt.mpr hk) ?_;rfl
theorem Xs{G:Ln}{p q:Y9}(h:pg H k d iw tw x (G++[p,q]) c r2 fs):∃σ',(T pp<|n+2).i (.m<|.ref 228) [.g k] H=.c (.d<|(q:Yh)-p) σ'/\σ'.h=H:=by
 refine cc h.st λj u hj z z=>jV (·=H) iu (by rfl) Y7 λσ h1 h2=>?_;subst h2;obtain e1:σ.l.lookup ("self":Yg)=Y6 (.g k):=by erw[h1];rfl
 obtain⟨σ',e,w⟩:∃σ',(T pp<|n+1).i (.m<|.ref 200) [.g k] σ.h=.c .none σ'/\σ'.h=σ.h:=jV (·=σ.h) iu (by rfl) Y7 λσ' h1 h2=>qM (wA (qR (qA<|by erw[h1];rfl)<|by rw[h2];exact h.a.I bT (v:=.d 2) iu u.d.j Y7) Y7) (λz=>qF<|GF ⟨Y7,h2⟩) λq=>g9 q iu;refine zF (qT (qA e1) (h.a.L bT (u.d.b.m iu)<|by rfl) (xs:=[]) Y7 e) ?_;rw[w];refine kb (qR (qA e1)<|h.a.I bT iu u.d.a Y7) ?_;obtain e2:=@qH σ "goodlines"<|.g j;obtain hj:sv ((σ.F "goodlines"<|.g j).o j)=Y6 (kj<|G++[p,q]):=by show sv (σ.o j)=_;rw[hj];rfl
 obtain h9:(σ.F "goodlines"<|.g j).h=σ.h:=Y7;generalize σ.F "goodlines" (.g j)=σ' at e2 hj h9⊢;obtain at_:∀{i:Yh}{m v:Y9},(if i<0 then i+(G.length+2:Y9)else i)=(m:Yh)->m<G.length+2->ow i=Ye->(G++[p,q])[m]?=Y6 v->ev (T pp<|n+1).c (.q "goodlines"<|.k i) σ'=.c (.d (v:Y9)) σ':=λ{i m v}L F J I=>xE (qA e2) Y7<|xV (j:=m) Y7 hj J (by rw[(by unfold kj;rw[n5,j9];rfl:(kj<|G++[p,q]).length=G.length+2)];exact O3 L F) (by unfold kj;rw[iW,I];rfl);obtain eN:∀i:Yh,ev (T pp<|n+1).c (.q "goodlines"<|.B<|.k i) σ'=ev (T pp<|n+1).c (.q "goodlines"<|.k<|-i) σ':=λz=>Y7;refine qF<|zY (kJ ((eN 1).trans<|at_ (m:=G.length+1) (v:=q) (by refine bj iu ?_;lia) (by lia) iu<|by rw[cA<|fM _,show G.length.succ-G.length=1 by lia];rfl)<|(eN 2).trans<|at_ (m:=G.length) (v:=p) (by refine bj iu ?_;lia) (by lia) iu<|by rw[cA<|j7 _,gV];rfl) ⟨Y7,h9⟩
def Cp(s:Yh)(l:Yb<|Int×Yh):Yb V:=l.map λb=>.n [.d<|b.1+s,.d b.2]
def vr(o:Yd Yh):Yb V:=o.elim [] λi=>[.d i]
def lw(c:Y9)(m:Yh)(A:wz)(s:Yh):Yb V:=[.d (c:Y9),.j A.cl,.f A.y,.f A.a.s.c,.d m,.h<|Cp s A.a.s.b,.d<|A.a.a+s,.d<|A.a.b+s]
def O4(s:Yh):V->V|.n [.d a,.d b]=>.n [.d<|a+s,.d b]|v=>v
def O5(H:Hp)(k d:Y9)(x:Yg)(G:Ln)(c:Y9)(A:wz)(L:Yb V)(f:Fl)(σ':St):Prop:=∃j,f=.b (.g j)/\oi H σ'.h d/\H.n<=j/\j<σ'.n/\σ'.o j=Y6 (.a<|L++vr A.b)/\∃fs',pg σ'.h k d 4 8 x G c A.a fs'
def O6(H:Hp)(k d:Y9)(x:Yg)(G:Ln)(c:Y9)(A:wz)(L:Yb V)(j:Y9)(fs2:ly)(σ':St):Prop:=σ'.I "told" (.g j)/\oi H σ'.h d/\j<σ'.n/\σ'.o j=Y6 (.a<|L++vr A.b)/\pg σ'.h k d 4 8 x G c A.a fs2
theorem O7{s:Yh}{A:wz}{G:Ln}{p q:Y9}(h:sy H k d fs 4 8 x (G++[p,q]) c)(S:py x (G++[p,q]) c A)(hb:A.a.s.b.length<=1000):∃σ' j,(T pp<|n+4).i (.m<|.ref 292) [.g k,.d s] H=.c (.g j) σ'/\oi H σ'.h d/\H.n<=j/\j<σ'.n/\σ'.o j=Y6 (.a<|lw c ((q:Yh)-p) A s++vr A.b)/\∃fs',pg σ'.h k d 4 8 x (G++[p,q]) c A.a fs':=by
 obtain main:Gd (ex Di (T pp<|n+3)<|li qm ((["parser","start"]:Yb Yg).zip [.g k,.d s]) H)<|O5 H k d x (G++[p,q]) c A<|lw c ((q:Yh)-p) A s:=by
  have h1:(li qm ((["parser","start"]:Yb Yg).zip [.g k,.d s]) H).I "parser"<|.g k:=by rfl
  obtain h2:(li qm ((["parser","start"]:Yb Yg).zip [.g k,.d s]) H).h=H.add (.cell<|some<|.d s):=by rfl
  obtain h3:(li qm ((["parser","start"]:Yb Yg).zip [.g k,.d s]) H).e=[(("start":Yg),H.n)]:=by rfl
  generalize li qm ((["parser","start"]:Yb Yg).zip [.g k,.d s]) H=σ at h1 h2 h3⊢;have old:∀i,i<H.n->σ.o i=H.o i:=λi hi=>by rw[h2];exact d8<|v9 hi
  obtain hcell:σ.o H.n=Y6 (.cell<|some<|.d s):=by rw[h2];exact d9 Y7
  have J:σ.n=H.n+1:=by rw[h2];rfl
  have hR:=h.F (by rw[J];exact fM _) λi hi=>old i<|hi.elim (λz=>z▸h.k) λz=>z▸h.d;have K0:oi H σ.h d:=⟨by rw[J];exact fM _,λi hi g=>old i hi⟩;obtain⟨σ1,a1,a2,ax,a3⟩:=V6 (pp:=pp) (n:=n+1) hR;obtain O:=qT (σ:=σ) (qA (cx:=(T pp<|n+3).c) h1) (hR.e.L bT (hR.fs.t.m iu) (m:="get_continuation_type") (a:=207)<|by rfl) (show ev (T pp<|n+3).c .l σ=.c (.h []) σ from Y7) a1;obtain⟨m,m1,m2⟩:=S.cl;obtain⟨jj,ak,_⟩:=a3.st;obtain⟨u,b1,b2,fs2,b3⟩:=Vi (pp:=pp) (n:=n) a3 S.st m1;rw[m2]at b1;obtain c2:=qT (σ:={σ with h:=σ1.h}) (qA (cx:=(T pp<|n+3).c) h1) (a3.a.L bT (ak.t.m iu) (m:="is_block_closer") (a:=256)<|by rfl) (show ev (T pp<|n+3).c .l _=.c (.h []) _ from Y7) b1;obtain hcell2:=(b2.a H.n (i9 (by rw[J];exact u8 _) a2.n)<|eZ h.d).trans<|(a2.a H.n (by rw[J];exact u8 _)<|eZ h.d).trans hcell;have I:({σ with h:=u.h}:St).I "parser"<|.g k:=h1;have s3:({σ with h:=u.h}:St).e=[(("start":Yg),H.n)]:=h3;have s4:({σ with h:=u.h}:St).o H.n=Y6 (.cell<|some<|.d s):=hcell2;have s5:pg ({σ with h:=u.h}:St).h k d 4 8 x (G++[p,q]) c A.a fs2:=b3;obtain s6:oi H ({σ with h:=u.h}:St).h d:=(K0.F a2).F b2;obtain s7:H.n+1<=({σ with h:=u.h}:St).n:=by have:=g8 a2.n b2.n;rw[J]at this;exact this
  have Y:=c2;obtain key:∀{aT:St},Gd (ex (.z "told"<|.r<|.d (.m "parser" "get_continuation_type" .l)<|.d (.m "parser" "is_block_closer" .l)<|.d (.m "parser" "get_base_indent_string" .l)<|.d (.A "parser" "lastch")<|.d (.m "parser" "get_num_lines_in_stmt" .l)<|.d (.w (.D<|.d (.t .Add "place"<|.F "start")<|jm "depth") "place" "depth"<|.m "parser" "get_last_stmt_bracketing" .l)<|.d (.t .Add (.A "parser" "stmt_start")<|.F "start")<|jm<|.t .Add (.A "parser" "stmt_end")<|.F "start") (T pp<|n+3) σ) λf σ'=>f=.a/\σ'=(({σ with h:=u.h}:St).add<|.a<|lw c ((q:Yh)-p) A s).F "told" (.g ({σ with h:=u.h}:St).n):=λ{_}=>by generalize({σ with h:=u.h}:St)=τ at Y I s3 s4 s5 s6 s7⊢;obtain⟨j2,F,_⟩:=s5.st;have X:∀(loc:Yb<|Str×V)t,ev (T pp<|n+3).c (.F "start") ⟨τ.h,loc,τ.e,t⟩=.c (.d s) ⟨τ.h,loc,τ.e,t⟩:=λloc t=>A8 (c:=H.n) (by rw[s3];rfl) s4;obtain⟨σ3,d1,d2⟩:=Vm (pp:=pp) (n:=n+1) s5 S.d;obtain c3:=qT (σ:=τ) (qA (cx:=(T pp<|n+3).c) I) (s5.a.L bT (F.d.b.m iu) (m:="get_base_indent_string") (a:=242)<|by rfl) (show ev (T pp<|n+3).c .l _=.c (.h []) _ from Y7) d1;rw[d2]at c3;obtain⟨σ9,f1,f2⟩:=Xs (pp:=pp) (n:=n+1) s5;obtain c5:=qT (σ:=τ) (qA (cx:=(T pp<|n+3).c) I) (s5.a.L bT (F.d.b.m iu) (m:="get_num_lines_in_stmt") (a:=228)<|by rfl) (show ev (T pp<|n+3).c .l _=.c (.h []) _ from Y7) f1;rw[f2]at c5;obtain⟨σ4,e1,e2⟩:=(am s5.st λjj hF g=>DE s5 iu (by rfl) λσ e1 e0=>qF<|zY (qR (qA e1)<|by erw[e0];exact s5.a.I bT iu hF.f Y7) ⟨Y7,e0⟩:∃σ',(T pp<|n+1+2).i (.m<|.ref 263) [.g k] _=.c (.n<|qo A.a.s.b) σ'/\σ'.h=_);obtain c7:=qT (σ:=τ) (qA (cx:=(T pp<|n+3).c) I) (s5.a.L bT (F.d.b.m iu) (m:="get_last_stmt_bracketing") (a:=263)<|by rfl) (show ev (T pp<|n+3).c .l _=.c (.h []) _ from Y7) e1;rw[e2]at c7;obtain c8:=Xr (σ:=τ) (x:="place") (y:="depth") (elt:=.D<|.d (.t .Add "place"<|.F "start")<|jm "depth") (O4 s) c7 (xs:=qo A.a.s.b) Y7 (λv hv=>by obtain⟨b,hb,rfl⟩:=YD.mp hv;exact⟨[("depth",.d b.2),("place",.d b.1)],Y7,zt (qD (qS (qA (x:="place") Y7)<|X _ Y8)<|qD (qA (x:="depth") Y7) Y7)<|by show 2<=k8;decide⟩) (by unfold qo;rw[n5];exact g8 hb iu);rw[(by refine List.map_map.trans ?_;rfl:(qo A.a.s.b).map (O4 s)=Cp s A.a.s.b)]at c8;refine C4 (xs:=lw c ((q:Yh)-p) A s) (a7:=τ) (X1 (kW O<|kW Y<|kW c3<|kW (qR (qA I)<|s5.a.I bT iu F.e Y7)<|kW c5<|kW c8<|kW (qS (qR (qA (cx:=(T pp<|n+3).c) I)<|s5.a.I bT (f:="stmt_start") iu F.a Y7)<|X τ.l τ.a)<|kW (qS (qR (qA (cx:=(T pp<|n+3).c) I)<|s5.a.I bT (f:="stmt_end") iu F.b Y7)<|X τ.l τ.a) Y7)<|by show 8<=k8;decide) ⟨Y7,Y7⟩
  unfold Di;refine qK<|key (aT:=σ).mono ?_;rintro f σ'⟨rfl,rfl⟩;clear key O c2 Y a1 b1 hR a3 b3 hcell hcell2;generalize({σ with h:=u.h}:St)=τ at I s3 s4 s5 s6 s7⊢;obtain t1:((τ.add<|.a<|lw c ((q:Yh)-p) A s).F "told"<|.g τ.n).I "parser"<|.g k:=ru I;obtain t2:=@qH (τ.add<|.a<|lw c ((q:Yh)-p) A s) "told"<|.g τ.n;obtain t3:((τ.add<|.a<|lw c ((q:Yh)-p) A s).F "told"<|.g τ.n).o τ.n=Y6 (.a<|lw c ((q:Yh)-p) A s):=d9 Y7;obtain t0:qs τ.h ((τ.add<|.a<|lw c ((q:Yh)-p) A s).F "told"<|.g τ.n).h:=⟨fM _,λi hi=>d8<|v9 hi⟩;have N:=s5.F t0;have t5:=s6.F ⟨t0.1,λi hi g=>t0.2 i hi⟩;obtain t6:((τ.add<|.a<|lw c ((q:Yh)-p) A s).F "told"<|.g τ.n).n=τ.n+1:=Y7;have t7:H.n<=τ.n:=t9 s7;generalize(τ.add<|.a<|lw c ((q:Yh)-p) A s).F "told" (.g τ.n)=σ at t0 t1 t2 t3 N t5 t6⊢;obtain t8:=t0.2;generalize hj:τ.n=j at t2 t3 t6 t7 t8;have L:∀{σ:St}{e:Yb V},σ.I "told" (.g j)->σ.o j=Y6 (.a<|lw c ((q:Yh)-p) A s++e)->ev (T pp<|n+3).c (.q "told"<|.k 0) σ=.c (.d (c:Y9)) σ:=λ{σ e}h1 h2=>xE (qA h1) (show ev (T pp<|n+3).c (.k 0) σ=.c (.d ((0:Y9):Yh)) σ from Y7)<|xV (xs:=lw c ((q:Yh)-p) A s++e) (j:=0) Y7 (show sv (σ.o j)=_ by rw[h2];rfl) iu (vL<|eG _) Y7;have app:∀{σ:St}{meth:Yg}{v:Yh},σ.I "told" (.g j)->σ.o j=Y6 (.a<|lw c ((q:Yh)-p) A s)->ev (T pp<|n+3).c (.m "parser" meth .l) σ=.c (.d v) σ->Gd (ex (.d (.j<|.m "told" "append"<|jm<|.m "parser" meth .l) .g) (T pp<|n+3) σ) λf σ'=>f=.a/\σ'={σ with h:=km σ.h j<|.a<|lw c ((q:Yh)-p) A s++[.d v]}:=λ{σ meth v}h1 h2 h3=>zF (qT (qA h1) (GO bT h2<|bj Y7 Y7) (qD h3 Y7)<|by show nz "list.append" [.g j,.d v] _=_;rw[wO,sf h2<|by show 8<=2000;decide];rfl)<|qC ⟨Y7,Y7⟩;have a9:∀{σ':St}{v:Yh},A.b=Y6 v->σ'={σ with h:=km σ.h j<|.a<|lw c ((q:Yh)-p) A s++[.d v]}->O6 H k d x (G++[p,q]) c A (lw c ((q:Yh)-p) A s) j fs2 σ':=λ{σ' v}e1 e2=>by
   subst e2;refine⟨t2,⟨t5.n,λi hi hd=>(qE<|v9<|i9 hi t7).trans<|t5.a i hi hd⟩,by show j<σ.n;rw[t6];exact u8 _,by rw[e1];exact mi,s5.F ⟨?_,λi hi=>?_⟩⟩;.show τ.n<=σ.n;rw[hj,t6];exact fM _
   .have hi:i<j:=hj▸hi;exact(qE<|v9 hi).trans<|t8 i hi
  have Z:A.b=Y8->σ.o j=Y6 (.a<|lw c ((q:Yh)-p) A s++vr A.b):=λe=>by rw[e];exact t3.trans<|by rw[show vr Y8=[]from Y7,eY]
  have done:∀{σ':St},O6 H k d x (G++[p,q]) c A (lw c ((q:Yh)-p) A s) j fs2 σ'->Gd (ex (.d (.m "told") .g) (T pp<|n+3) σ') (O5 H k d x (G++[p,q]) c A<|lw c ((q:Yh)-p) A s):=λh=>qF<|zY (qA h.1) ⟨j,Y7,h.2.1,t7,h.2.2.1,h.2.2.2.1,fs2,h.2.2.2.2⟩;have g1:=xQ (L (e:=[]) t2<|by exact t3)<|qQ<|GK<|bT (pp:=pp) (n:=n+3);obtain⟨j4,aa,_⟩:=N.st;by_cases c4:c=4;.obtain⟨o,pre,as,q1,q2,q3,q4⟩:=S.e c4;clear Z t8;subst c4;obtain⟨σ5,r1,U⟩:=Vg (pp:=pp) (n:=n+1) N q1 q2 q3;have m1:=qT (σ:=σ) (qA (cx:=(T pp<|n+3).c) t1) (N.a.L bT (aa.d.b.m iu) (m:="compute_bracket_indent") (a:=221)<|by rfl) (show ev (T pp<|n+3).c .l _=.c (.h []) _ from Y7) r1;rw[U]at m1;refine yK g1 (λg=>(app t2 t3 m1).mono ?_) λz=>g9 z iu;rintro f σ'⟨rfl,e⟩;obtain⟨w1,w2⟩:=a9 q4 e;exact qM (t:=Yc) (xQ (L (e:=vr A.b) w1 w2.2.2.1)<|qQ<|Dx<|bT (pp:=pp) (n:=n+3)) (λz=>by cases z) λg=>done ⟨w1,w2⟩
  .refine qM (t:=Yc) (by rw[g1];exact i6 (λb=>Rs.c (V.j b) σ)<|beq_eq_false_iff_ne.mpr λz=>c4<|lF<|(λ{m n}=>ZE.mp)<|id<|lF z) (λz=>by cases z) λg=>?_;have g2:=xQ (L (e:=[]) t2<|by exact t3)<|qQ<|Dx<|bT (pp:=pp) (n:=n+3);by_cases O:c=1;.obtain⟨y,q2,q3,q4⟩:=S.f O;subst O;obtain⟨σ5,r1,U⟩:=Vu (pp:=pp) (n:=n+1) N q2 q3;have m1:=qT (σ:=σ) (qA (cx:=(T pp<|n+3).c) t1) (N.a.L bT (aa.d.b.m iu) (m:="compute_backslash_indent") (a:=235)<|by rfl) (show ev (T pp<|n+3).c .l _=.c (.h []) _ from Y7) r1;rw[U]at m1;refine yK g2 (λg=>(app t2 t3 m1).mono ?_) λz=>g9 z iu;rintro f σ'⟨rfl,e⟩;exact done<|a9 q4 e
   .exact qM (t:=Yc) (by rw[g2];exact i6 (λb=>Rs.c (V.j b) σ)<|beq_eq_false_iff_ne.mpr λz=>O<|lF<|(λ{m n}=>ZE.mp)<|id<|lF z) (λz=>by cases z) λg=>done ⟨t2,t5,by rw[t6];exact u8 _,Z<|S.g c4 O,N⟩
 obtain⟨f,σ',e,j,rfl,w⟩:=main;exact⟨σ',j,Hu iu (by rfl) Y7 e Y7,w⟩
theorem Xu(hs:x.length<=900)(F:s<=x.length)(L:s≠0->x.cps.toList[s-1]?=Y6 10)(hy:y.cps.toList=x.cps.toList.drop s)(I:PO H k d fs)(J:FsP fs iw tw x lv):∃σ',(T pp<|n+1).i (.m<|.ref 193) [.g k,.d (s:Y9)] H=.c .none σ'/\∃fs',σ'.h=km H d (.dict fs')/\(fs'=fs/\y=x\/fs'=kn "code" (.f y) fs):=by
 refine jV (λH'=>∃fs',H'=km H d (.dict fs')/\(fs'=fs/\y=x\/fs'=kn "code" (.f y) fs)) iu (by rfl) Y7 λσ u h3=>?_;obtain h1:σ.I "self"<|.g k:=by unfold St.I;rw[u];rfl
 have h2:σ.I "lo"<|.d (s:Y9):=by unfold St.I;rw[u];rfl
 subst h3;obtain ec:=qR (qA h1)<|I.I bT iu J.code Y7;obtain e1:=xQ (qA (cx:=(T pp n).c) h2)<|show ev (T pp n).c (.k 0) σ=.c (.d 0) σ from Y7;obtain e5:=GH (qA (cx:=(T pp n).c) h2)<|show ev (T pp n).c (.k 0) σ=.c (.d 0) σ from Y7;by_cases u:s=0;.rw[u]at e1 e5;refine qY (yb (p:=Ye) (q:=Ye) e1 λq=>su q) ?_;exact qM (t:=Yc) e5 (λq=>by cases q) λz=>qC ⟨Y7,fs,(GQ I.dict).symm,.inl ⟨Y7,Str.rl<|by exact zJ5 hy<|zJ5 u<|rfl⟩⟩
 .rw[(by simpa using u:(((s:Y9):Yh)==0)=Yc)]at e1;refine qY (yb (q:=Ye) e1 λz=>?_) ?_;.rw[jW (xE ec (kJ (qA h2) Y7)<|FP (H:=σ.h) (x:=x) (i:=((s:Y9):Yh)-1) (j:=s-1) (vG (by exact oW<|lS iu<|cD _)<|by exact lS (Int.sub_le_self _ iu)<|Int.ofNat_le.mpr<|g8 F<|bx hs) (by rw[show((s:Y9):Yh)-1=((s-1:Y9):Yh)by exact ck<|w5 u];exact vL<|by exact i9 (Nat.sub_one_lt u) F)<|by rw[<-dP];exact L u) Y7,AN];rfl
  .rw[i7<|Int.natCast_pos.mpr<|w5 u]at e5;exact qM e5 (λz=>qF<|xW (by exact vK ec (qA h2) Y7<|zJ5 NK<|zJ5 WV<|pd hy Y7) (qA h1) (I.J bT iu J.t.I)<|qC<|qC ⟨Y7,_,Y7,.inr Y7⟩)<|λq=>su q
theorem FsP.T{fs':ly}(h:FsP fs iw tw x lv)(u:fs'=fs/\y=x\/fs'=kn "code" (.f y) fs):FsP fs' iw tw y lv:=by
 rcases u with⟨rfl,rfl⟩|rfl;.exact h
 .exact⟨(h.t.J (i:=2) iu iu jg).L iu,(qB iu).trans h.iw,(qB iu).trans h.tw,qZ,(qB iu).trans h.v⟩
theorem O8:∀(m:Y9)(v:V)(D:ZW),qg H m v=Y6 D->fB D D:=by intro J;induction J with|zero=>exactλq q h=>lz h|succ m L=>
  intro v D h;have all:∀(xs:Yb V)(u:Yb ZW),xs.mapM (qg H m)=Y6 u->PyData.eqvAll u u=Ye:=by intro xs;induction xs with|nil=>intro u h;rw[(c0 h).symm];rfl|cons a xs N=>intro u h;rw[mV]at h;obtain⟨b,I,h⟩:=ji h;obtain⟨bs,F,h⟩:=ji h;obtain rfl:=c0 h;rw[PyData.eqvAll,L a b I,N bs F];rfl
  cases v with|none=>obtain rfl:=c0 h;rfl|j b=>obtain rfl:=c0 h;simp[fB]|d i=>obtain rfl:=c0 h;simp[fB]|f x=>obtain rfl:=c0 h;simp[fB]|h xs=>obtain⟨u,h1,rfl⟩:=jl<|h;exact all _ _ h1|n xs=>obtain⟨u,h1,rfl⟩:=jl<|h;exact all _ _ h1|g k=>obtain⟨xs,_,h2⟩:=ji<|h;obtain⟨u,h1,rfl⟩:=jl h2;exact all _ _ h1|_=>cases h
theorem Xv{a b:V}{D:ZW}(u:qg H 8 a=Y6 D)(F:qg H 8 b=Y6 D):wM H .NotEq a b=.b (.j Yc):=by show Az (((qg H 8 a).bind λx=>(qg H 8 b).map λy=>fB x y).map (!·))=_;refine zJ5 u<|zJ5 F ?_;show Ov.b (.j<|!PyData.eqv D D)=_;erw[O8 8 a D u];rfl
theorem O9{m:Y9}:∀{xs:Yb V},(∀v∈xs,∃d,qg H m v=Y6 d)->∃u,xs.mapM (qg H m)=Y6 u:=by intro I;induction I with|nil=>exactλq=>⟨[],Y7⟩|cons v xs F=>intro h;obtain⟨d,hd⟩:=h v<|.head _;obtain⟨u,h1⟩:=F λv hv=>h v<|.tail _ hv;exact⟨d::u,by refine zJ5 mV<|zJ5 hd<|zJ5 h1 ?_;rfl⟩
theorem E5{m:Y9}{xs:Yb V}(h:∀v∈xs,∃d,qg H m v=Y6 d):∃u,xs.mapM (qg H m)=Y6 u/\qg H (m+1) (.h xs)=Y6 (.list u):=by obtain⟨u,h1⟩:=O9 h;exact⟨u,h1,by show(xs.mapM<|qg H m).map k_=_;erw[h1];rfl⟩
theorem Cq{m:Y9}{xs:Yb V}{u:Yb ZW}(h1:xs.mapM (qg H m)=Y6 u)(F:H.o j=Y6 (.a xs)):qg H (m+1) (.g j)=Y6 (.list u):=by show((sv<|H.o j).bind λxs=>(xs.mapM<|qg H m).map k_)=_;erw[F];show(xs.mapM<|qg H m).map k_=_;erw[h1];rfl
theorem HF{m:Y9}{l:Ln}:∀v∈kj l,∃d,qg H (m+1) v=Y6 d:=λv hv=>by refine am (YD.mp hv) λi q u=>?_;subst u;exact⟨_,Y7⟩
theorem Xw{c:Y9}{m:Yh}{A:wz}{s:Yh}:∀v∈lw c m A s++vr A.b,∃d,qg H 7 v=Y6 d:=λv hv=>by
 rcases Yz.mp hv with hv|hv
 .simp only[lw,rW,pP,or_false]at hv;rcases hv with rfl|rfl|rfl|rfl|rfl|rfl|rfl|rfl;.exact⟨_,Y7⟩
  .exact⟨_,Y7⟩
  .exact⟨_,Y7⟩
  .exact⟨_,Y7⟩
  .exact⟨_,Y7⟩
  .exact am (E5 (H:=H) (m:=6)<|λv hv=>by refine am (YD.mp hv) λi q u=>?_;subst u;exact⟨_,Y7⟩) λI q h=>⟨_,h⟩
  .exact⟨_,Y7⟩
  .exact⟨_,Y7⟩
 .cases F:A.b with|none=>rw[F]at hv;cases hv|some i=>rw[F]at hv;erw[Yw.mp hv];exact⟨_,Y7⟩
end
theorem lu.Y{l:Ln}{M:Mk}{R:Ln}{c:Y9}(h:lu l M R c)(u:l≠[])(F:l.length<=900):uo (qy<|tz<|l.map ko)=Y6 (R,c)/\∀M',kr 1000 .a (qy<|tz<|l.map ko) ⟨0,0,[0],0⟩=Y6 M'->M'.d≠[]:=by
 obtain⟨e1,e2⟩:=Uf (by
  refine⟨l.dropLast.map ko,?_⟩;conv=>lhs;rw[<-fV u,eQ]
  rw[h.f _<|w8 u];rfl:qn<|l.map ko) (by rw[n5];exact g8 F iu);obtain hm:=h.o;refine zJ5 e1<|zJ5 e2<|zJ5 hm<|⟨h.k,λM' e=>?_⟩;obtain rfl:=c0 e;exact h.d.a.c
end Mine.Lake.L09
namespace Mine.Lake.Tx
theorem z6{ls:Yb<|Ln}{bar:Y9->Yj}{k:Y9}:((tF ls k).drop<|(tF ls k).length-5).any (λg=>(pb bar g).isSome)=(qf ls bar 5 k).isSome:=by unfold qf;rw[List.take_reverse];refine Zt.mpr ?_;rw[List.any_eq_true,List.findSome?_isSome_iff];exact⟨λh=>am h λg h1 h2=>⟨g,List.mem_reverse.mpr h1,h2⟩,λh=>am h λg h1 h2=>⟨g,List.mem_reverse.mp h1,h2⟩⟩
theorem z7(ls:Yb<|Ln)(k:Y9):(tF ls k).length<=k/\∀g∈tF ls k,g.length<=k:=by induction k using rM with|ind k u=>obtain hc:=Hq ls k;cases hj:yH ls k with|none=>rw[hj]at hc;rw[hc];exact⟨v8 _,λq h=>tq h⟩|some j=>
   replace hc:=hj▸hc;obtain⟨h1,h2⟩:=u j hc.1;rw[hc.2];refine⟨by rw[j9];exact g8 (m9 h1) hc.1,λg hg=>?_⟩;rcases Yz.mp hg with hg|hg;.exact g8 (h2 g hg)<|n6 hc.1
   .rw[Yw.mp hg];exact vq
end Mine.Lake.Tx
namespace Mine.Lake.L09
open PySem PySem.W PyProof.Rows Mine.Lake Mine.Lake.Rp Mine.Lake.Re MineTop
def gB(b:Y9)(g:Ln):Yb V:=kj<|g.map (b+·)
def Gr(b:Y9)(H:Hp)(js:Ln)(G:Yb<|Ln):Prop:=js.map H.o=G.map λg=>Y6<|.a<|gB b g
def kS(b:Y9)(R:Ln)(k:Y9):Yj:=!R.contains (b+k)
def z8(R:Ln)(l:Yb V):Yj:=(l.head?.bind qV).elim Yc λi=>R.contains i.toNat
def E6(R:Ln)(H:Hp)(v:V):Yj:=(lj H v).elim Yc<|z8 R
section
variable{pp:dE}{n b k jG:Y9}{H H':Hp}{σ:St}{js:Ln}{G:Yb<|Ln}{R E:Ln}{ls:Yb<|Ln}
theorem E7{g:Ln}:(gB b g).length=g.length:=by unfold gB kj;rw[n5,n5]
theorem Gr.J(h:Gr b H js G):js.length=G.length:=by have:=i6 Ys h;rw[n5,n5]at this;exact this
theorem Gr.L(h:Gr b H js G):(js.map V.g).isEmpty=G.isEmpty:=by have:=h.J;clear h;cases js with
 |nil=>cases G with|nil=>rfl|cons=>exact Op this
 |cons=>cases G with|nil=>exact nomatch this|cons=>rfl
theorem Gr.I(h:Gr b H js G)(e:∀j∈js,H'.o j=H.o j):Gr b H' js G:=(iS e).trans h
theorem Gr.O{u:Ln}{G':Yb<|Ln}(h:Gr b H js G)(F:Gr b H u G'):Gr b H (js++u)<|G++G':=by unfold Gr;simp only[eQ,eQ,show js.map _=_ from h,show u.map _=_ from F]
theorem Gr.N(h:Gr b H js G){j:Y9}(hj:j∈js):∃g∈G,H.o j=Y6 (.a<|gB b g):=by have:=List.mem_map_of_mem (f:=H.o) hj;rw[h]at this;exact am (YD.mp this) λg h1 h2=>⟨g,h1,h2.symm⟩
theorem Gr.S(h:Gr b H js G)(u:G≠[]):∃F j G' g,js=F++[j]/\G=G'++[g]/\Gr b H F G'/\H.o j=Y6 (.a<|gB b g):=by
 have hj:js≠[]:=λz=>u<|fN (by rw[<-h.J,z];rfl);refine⟨js.dropLast,js.getLast hj,G.dropLast,G.getLast u,(fV _).symm,(fV _).symm,?_,?_⟩;.unfold Gr;rw[mX,mX,h]
 .have:=i6 List.getLast?<|h;rw[iA,iA,w8 hj,w8 u]at this;exact c0 this
theorem Oa{g:Ln}:z8 R (gB b g)=(Tx.pb (kS b R) g).isSome:=by cases g with|nil=>rfl|cons r g=>show R.contains (b+r)=(if !R.contains (b+r)then Y8 else Y6 r:Yd Y9).isSome;cases R.contains<|b+r<;>rfl
theorem Xx(h:Gr b H js G):(js.map V.g).any (E6 R H)=G.any λg=>(Tx.pb (kS b R) g).isSome:=by have:=i6 (List.any · λo=>(sv o).elim Yc<|z8 R) h;rw[sG,sG]at this;rw[sG];refine this.trans ?_;congr 1;funext g;exact Oa
theorem HG{m:Y9}(l:Ln):(kj l).mapM (qg H<|m+1)=Y6 (l.map λ(i:Y9)=>Z_ (i:Yh)):=by have:=(by intro F;induction F with|nil=>exact  Y7|cons a l u=>refine zJ5 mV<|zJ5 u ?_;rfl:∀l:Yb Yh,(l.map V.d).mapM (qg H<|m+1)=Y6 (l.map Z_))<|l.map λ(i:Y9)=>(i:Yh);rw[iX,iX]at this;exact this
theorem Ob{a:V}{xs:Yb V}{u:Yb ZW}(hd:xs.mapM (qg H 7)=Y6 u)(h:qg H 8 a=Y6 (.list u)):wM H .NotEq a (.h [])=.b (.j<|!xs.isEmpty):=by show Az (((qg H 8 a).bind λx=>(qg H 8<|.h []).map λy=>fB x y).map (!·))=_;rw[h];show Ov.b (.j<|!PyData.eqv (.list u) (.list []))=_;clear h;cases xs with|nil=>obtain rfl:=c0<|List.mapM_nil.symm.trans hd;rfl|cons v xs=>rw[mV]at hd;refine jh hd λq q hd=>am (ji hd) λq q hd=>?_;obtain rfl:=c0 hd;rfl
theorem HH{j:Y9}{xs:Yb V}(u:H.o j=Y6 (.a xs))(h:∀v∈xs,∃d,qg H 7 v=Y6 d):wM H .NotEq (.g j) (.h [])=.b (.j<|!xs.isEmpty):=bn (O9 h) λq h1=>Ob h1<|Cq h1 u
theorem E8{r:Y9}(h:H.o jG=Y6 (.a<|kj R)):wM H .In (.d (r:Y9)) (.g jG)=.b (.j<|R.contains r)/\wM H .NotIn (.d (r:Y9)) (.g jG)=.b (.j<|!R.contains r):=by
 obtain e:((lj H<|.g jG).bind λys=>(ys.mapM<|qg H 7).map λl=>l.any λy=>fB y<|.int (r:Y9))=Y6 (R.contains r):=by show(sv<|H.o jG).bind _=_;rw[h];show((kj R).mapM<|qg H 7).map _=_;rw[HG];refine i6 Y6 ?_;show List.any _ _=_;rw[sG,pI];congr 1;funext i;show fB (.int (i:Yh)) (.int (r:Y9))=_;rw[fB];exact Zt.mpr<|by rw[v1,v1];exact⟨λh=>ZE.mp h.symm,λh=>i6 Nat.cast h.symm⟩
 exact⟨i6 Az e,i6 (λo=>Az<|pV (!·) o) e⟩
theorem Xy{cx:Cx}{a7:St}{o as:X}{m:Yg}{vo vf v:V}{first xs:Yb V}{σ':St}(u:ev cx o σ=.c vo σ)(hg:cx.k vo m σ.h=Y6 (vf,first))(F:ev cx as σ=.c (.h xs) a7)(h:cx.i vf (first++xs) a7.h=.c v σ'):ev cx (.m o m as) σ=.c v {a7 with h:=σ'.h}:=by refine zJ5 LC<|zJ5 (Rs.u u)<|zJ5 hg ?_;show(ev cx as σ).F _=_;erw[Rs.u F];show(cx.i vf (first++xs) a7.h).I a7=_;erw[h];rfl
theorem HI{o a:X}{j:Y9}{v:V}{xs:Yb V}{a7:St}(hz:ev (T pp n).c o σ=.c (.g j) σ)(I:σ.o j=Y6 (.a xs))(F:xs.length<=1000)(J:ev (T pp n).c a σ=.c v a7)(u:a7.o j=Y6 (.a xs)):ev (T pp n).c (.m o "append"<|.d a .l) σ=.c .none {a7 with h:=km a7.h j<|.a<|xs++[v]}:=Xy hz (GO bT I<|bj Y7 Y7) (kW J Y7)<|by rw[bT.a];show nz "list.append" [.g j,v] _=_;rw[wO,sf u<|g8 F iu];rfl
theorem Oc{a v:V}{xs:Yb V}(hs:kt a=Y8)(h:lj H a=Y6 xs)(hv:xs.getLast?=Y6 v):qw H a (.d<|-1)=.b v:=by
 have u:0<xs.length:=by cases xs with|nil=>exact lz hv|cons=>exact eG _
 exact xV (xs:=xs) (j:=xs.length-1) hs h iu (O3 (by exact bj iu<|(pR _ _).trans<|ck u)<|iO u iu)<|by rw[<-eP];exact hv
end
def tm(ls:Yb<|Ln):V:=.h<|((ls.map (·++[10])).map tx).map .f
structure y6(l:Ln):Prop where
 d:nb l=Ye
 b:∀c∈l,c<128
 a:l.length<=200
structure Gs(ls:Yb<|Ln)(b:Y9)(H:Hp)(jG:Y9)(E:Ln)(G:Yb<|Ln)(σ:St):Prop where
 rows:σ.I "rows"<|tm ls
 a:σ.I "every"<|.g<|H.n+1
 groups:σ.I "groups"<|.g<|H.n+2
 e:σ.e=[(("good":Yg),H.n)]c:σ.o H.n=Y6 (.cell<|some<|.g jG)f:σ.o (H.n+1)=Y6 (.a<|gB b E)g:∃js:Ln,σ.o (H.n+2)=Y6 (.a<|js.map .g)/\Gr b σ.h js G/\js.Nodup/\∀j∈js,H.n+3<=j/\j<σ.n
 k:H.n+3<=σ.n
 d:∀i,i<H.n->σ.o i=H.o i
section
variable{pp:dE}{n b k jG:Y9}{H:Hp}{σ:St}{E l:Ln}{G ls:Yb<|Ln}
theorem wk{g:Ln}:gB b (g++[k])=gB b g++[.d ((b+k:Y9):Yh)]:=by unfold gB kj;rw[eQ,eQ];rfl
theorem y7(h:Gs ls b H jG E G σ)(hk:σ.I "k"<|.d ((b+k:Y9):Yh))(u:(ls.drop b)[k]?=Y6 l)(F:ls.length<=200):ev (T pp n).c (.q "rows" "k") σ=.c (.f<|tx<|l++[10]) σ:=by rw[iP]at u;refine xE (qA h.rows) (qA hk)<|E1 ?_ (by rw[iW,iW,u];rfl);exact g8 (n6 (Yv.mp u).1)<|g8 F iu
theorem Xz(h:Gs ls b H jG E G σ)(J:E.length<=1000)(hk:σ.I "k"<|.d ((b+k:Y9):Yh)):∃σ',ev (T pp n).c (.m "every" "append"<|jm "k") σ=.c .none σ'/\Gs ls b H jG (E++[k]) G σ'/\σ'.l=σ.l:=by refine cc h.g λjs F I L u=>⟨_,HI (qA h.a) h.f (by rw[E7];exact J) (qA hk) h.f,⟨h.rows,h.a,h.groups,h.e,(qE<|by simp).trans h.c,?_,⟨js,(qE<|by simp).trans F,I.I λj hj=>qE<|by have:=(u j hj).1;lia,L,u⟩,h.k,λi hi=>(qE<|by lia).trans<|h.d i hi⟩,Y7⟩;exact mi.trans<|i6 (λx=>Y6<|O.a x) wk.symm
theorem XA(h:Gs ls b H jG E G σ)(U:G.length<=1000):∃σ',ev (T pp n).c (.m "groups" "append"<|.d (.I .l) .l) σ=.c .none σ'/\Gs ls b H jG E (G++[[]]) σ'/\σ'.l=σ.l:=by
 refine cc h.g λjs L J S I=>?_;have F:=h.k;have u:∀i,i<σ.n->(σ.add<|.a []).o i=σ.o i:=λi hi=>d8<|v9 hi;refine⟨_,HI (qA h.groups) L (by rw[n5,J.J];exact U) (xv.trans<|show pf 0 (.c (.g σ.n)<|σ.add<|.a [])=_ from d9<|v8 _)<|(u _ F).trans L,⟨h.rows,h.a,h.groups,h.e,(qE<|by simp).trans<|(u _<|by lia).trans h.c,(qE<|by simp).trans<|(u _<|by exact n6 ‹_›).trans h.f,⟨js++[σ.n],mi.trans<|by rw[eQ];rfl,?_,?_,λj hj=>?_⟩,n7 F,λi hi=>(qE<|by lia).trans<|(u _<|by lia).trans<|h.d i hi⟩,Y7⟩;.refine Gr.O (J.I λj hj=>(qE<|by have:=(I j hj).1;exact eZ ‹_›).trans<|u _ (I j hj).2) ?_;show[_]=[_];rw[qE<|by exact eZ ‹_›];exact i6 (λx=>[x])<|d9 Y7
 .refine List.nodup_append.mpr ⟨S,List.nodup_cons.mpr ⟨pP,sD⟩,λa O b N=>?_⟩;rw[Yw.mp N];exact v9 (I a O).2
 .show _/\j<σ.n+1;rcases Yz.mp hj with hj|hj;.exact⟨(I j hj).1,dI (I j hj).2⟩
  .rw[Yw.mp hj];exact⟨F,u8 _⟩
theorem XB(h:Gs ls b H jG E G σ)(J:G≠[])(U:∀g∈G,g.length<=1000)(hk:σ.I "k"<|.d ((b+k:Y9):Yh)):∃σ',ev (T pp n).c (.m (.q "groups"<|.B<|.k 1) "append"<|jm "k") σ=.c .none σ'/\Gs ls b H jG E (Tx.z0 G k) σ'/\σ'.l=σ.l:=by refine cc h.g λjs I S u L=>dq (S.S J) λV j X g e1 e2 N F=>?_;have hj:=(L j<|by rw[e1];exact gR _<|.head _).1;refine⟨_,HI (xE (qA h.groups) uK<|Oc (a:=.g<|H.n+2) Y7 (show sv (σ.o<|H.n+2)=Y6 (js.map .g)by rw[I];rfl)<|by rw[e1,eQ];exact gN) F (by rw[E7];exact U g<|by rw[e2];exact gR _<|.head _) (qA hk) F,⟨h.rows,h.a,h.groups,h.e,(qE<|by lia).trans h.c,(qE<|by lia).trans h.f,⟨js,(qE<|by exact v9 ‹_›).trans I,?_,u,L⟩,h.k,λi hi=>(qE<|by lia).trans<|h.d i hi⟩,Y7⟩;rw[e2,Tx.tG,e1];rw[e1]at u;refine Gr.O (N.I λi hi=>qE<|(List.nodup_append.mp u).2.2 i hi j<|.head _) ?_;show[_]=[_];exact i6 (λx=>[x])<|mi.trans<|i6 (λx=>Y6<|O.a x) wk.symm
theorem HJ{α:Type}{xs:Yb α}(m:Y9)(hm:0<m):qh xs (Y6<|-(m:Yh)) Y8=xs.drop (xs.length-m):=by show(xs.drop<|clipAt xs.length<|-(m:Yh)).take (xs.length-Z5 xs.length (-(m:Yh)))=_;rw[(by unfold Z5;rw[d9<|by simp_all];exact ef:Z5 xs.length (-(m:Yh))=xs.length-m),dW<|by rw[r9];exact j7 _]
theorem XC{l:Ln}:((l++[10]).drop ((l++[10]).length-2)==[58,10])=(l.getLast?==Y6 58):=by
 rcases iK l with h|⟨u,d,h⟩;.subst h;rfl
 .obtain e:(u++[d]++[10]).drop ((u++[d]++[10]).length-2)=[d,10]:=by rw[v5,j9];exact gZ
  rw[h,iL,gN,e];refine Zt.mpr ?_;rw[v1,v1];exact⟨λh=>i6 Y6 (r4 h).1,λh=>i6 (λx=>[x,10])<|c0 h⟩
def wm:Yb Yg:=["def","else","try","return"]
theorem XD{w:Ln}:wM H .In (.f<|tx w) (.h<|wm.map .f)=.b (.j<|Tx.tH.contains w):=by show Ov.b (.j<|(wm.map PyData.str).any λy=>fB y<|.str<|tx w)=_;rw[sG,(by funext v;show fB (.str v) (.str<|tx w)=_;rw[fB]:(λy=>fB y<|.str<|tx w)∘PyData.str=λv=>v==tx w),(by decide+kernel:wm=Tx.tH.map tx),sG,pI];congr 3;funext v;refine Zt.mpr ?_;show(tx v==tx w)=Ye↔(w==v)=Ye;rw[v1,v1];exact⟨λh=>(i6 (λx:Yg=>x.cps.toList) h).symm,λh=>by rw[h]⟩
theorem XE(h:Gs ls b H jG (Tx.wR (ls.drop b) 0 k) (Tx.tF (ls.drop b) k) σ)(hk:σ.I "k"<|.d ((b+k:Y9):Yh))(J:(ls.drop b)[k]?=Y6 l)(S:y6 l)(O:ls.length<=200):Gd (ex (.d AL<|.d Lh .g) (T pp<|n+1) σ)<|C8<|Gs ls b H jG (Tx.wR (ls.drop b) 0<|k+1)<|Tx.tF (ls.drop b)<|k+1:=by
 have I:k<=200:=g8 (n6 (Yv.mp J).1) (by rw[r9];exact g8 (iY _ _) O);refine bC λN=>?_;obtain⟨b1,X⟩:=Tx.z7 (ls.drop b) k;obtain hC:Tx.lx (ls.drop b) k=(l.getLast?==Y6 58):=by unfold Tx.lx;rw[J];rfl
 refine N ?_;rw[Tx.ub<|v8 k,show Tx.tF (ls.drop b) (k+1)=Tx.tV (ls.drop b) k (Tx.tL (ls.drop b) k<|Tx.tF (ls.drop b) k)from Y7];obtain step1:Gd (ex AL (T pp<|n+1) σ) λf σ'=>f=.a/\Gs ls b H jG (Tx.wR (ls.drop b) 0 k) (Tx.tL (ls.drop b) k<|Tx.tF (ls.drop b) k) σ'/\σ'.I "k" (.d ((b+k:Y9):Yh)):=by
  unfold Tx.tL;refine zL (by refine(jW (vK (y7 (n:=n+1) (pp:=pp) h hk J O) (uK (i:=2)) (Y7:ev (T pp<|n+1).c .none σ=.c .none σ) NK) (Y7:ev (T pp<|n+1).c (.h ":\n") σ=.c (.f ":\n") σ)).trans<|i6 (λq=>Rs.c (V.j q) σ) ?_;show(qh (l++[10]) (Y6<|-((2:Y9):Yh)) Y8==[58,10])=_;rw[HJ 2 iu,XC,hC]:ev (T pp<|n+1).c (.j .Eq (.z (.q "rows" "k") (.B<|.k 2) .none)<|.h ":\n") σ=.c (.j<|Tx.lx (ls.drop b) k) σ) Y7 (λq=>?_) λq=>?_;.rw[d9 q];refine bo (XA (pp:=pp) (n:=n+1) h<|g8 b1<|g8 I iu) λσ' e u F=>zF e<|qC ⟨Y7,u,by unfold St.I;rw[F];exact hk⟩
  .rw[d8<|by rw[q];decide];exact qC ⟨Y7,h,hk⟩
 refine qK<|step1.mono ?_;rintro f σ⟨rfl,h,hk⟩;have hG:∀g∈Tx.tL (ls.drop b) k<|Tx.tF (ls.drop b) k,g.length<=1000:=λg hg=>by
  unfold Tx.tL at hg;by_cases q:Tx.lx (ls.drop b) k=Ye
  .rw[d9 q]at hg;rcases Yz.mp hg with hg|hg;.exact g8 (X g hg)<|g8 I iu
   .rw[Yw.mp hg];exact v8 _
  .rw[d8 q]at hg;exact g8 (X g hg)<|g8 I iu
 generalize Tx.tL (ls.drop b) k (Tx.tF (ls.drop b) k)=G at h hG⊢;obtain hcall:ev (T pp<|n+1).c (.n (.g "_law_first_word")<|jm<|.q "rows" "k") σ=.c (.f<|tx<|Tx.wj l) σ:=by refine am (Xq (pp:=pp) (n:=n) (H:=σ.h) S.b S.a) λσ' e1 e2=>?_;have:=zE (cx:=(T pp<|n+1).c) (as:=.d (.q "rows" "k") .l) (qQ (x:="_law_first_word")<|by erw[bT.b];rfl) (qD (y7 h hk J O) Y7) e1;rw[e2]at this;exact this
 obtain hcond:=zR (op:=.In) hcall (b:=.r<|.d (.h "def")<|.d (.h "else")<|.d (.h "try")<|.d (.h "return") .l) (y:=.h<|wm.map .f) (xP Y7 iu) XD;rw[<-Tx.ut J S.d]at hcond;unfold Tx.tV;refine qK<|zL hcond Y7 (λq=>?_) λq=>?_
 .rw[d9 q];refine bo (Xz (pp:=pp) (n:=n+1) h (g8 Tx.vq<|g8 I iu) hk) λσ' e u F=>zF e ?_;unfold St.I at hk;rw[<-F]at hk;generalize Tx.wR (ls.drop b) 0 k++[k]=E at u⊢;clear e hcond hcall h F;refine bC λN=>?_;obtain⟨js,g1,Y,g3,g4⟩:=u.g;refine N ?_;have L:=zR (qA (cx:=(T pp<|n+1).c) u.groups) (xP (cx:=(T pp<|n+1).c) (σ:=σ') (es:=.l) Y7 iu) (HH g1 λv hv=>by refine am (YD.mp hv) λj hj Z=>?_;subst Z;exact am (Y.N hj) λg w hg=>⟨_,Cq (HG<|List.map (λx=>b+x) g) hg⟩);rw[Y.L]at L;refine qK<|zL L Y7 (λU=>?_) λU=>?_
  .obtain hG0:G≠[]:=by rintro rfl;exact pz U
   rw[d9 ⟨q,hG0⟩];exact bo (XB (pp:=pp) (n:=n+1) u hG0 hG hk) λσ2 e2 h2 w=>zF e2<|qC<|qC<|qC ⟨Y7,h2⟩
  .rw[d8<|λz=>z.2<|by simpa using U];exact qC<|qC<|qC ⟨Y7,u⟩
 .rw[d8<|by rw[q];decide,d8<|λz=>by rw[q]at z;exact pz z.1,eY];exact qC<|qC ⟨Y7,h⟩
end
def AY(b:Y9)(o:Yd Y9):V:=o.elim .none λr=>.d ((b+r:Y9):Yh)
def Od(R:Ln)(v:V):Yj:=(qV v).elim Yc λi=>R.contains i.toNat
section
variable{pp:dE}{n b k jG:Y9}{H:Hp}{σ:St}{R E l:Ln}{G ls:Yb<|Ln}
theorem XF:(gB b E).filter (Od R)=gB b (E.filter λk=>!kS b R k):=by unfold gB kj;rw[q_,q_];congr 2;refine List.filter_congr λx q=>?_;show R.contains (b+x)=!!R.contains (b+x);rw[sI]
theorem XG{α:Type}{P:α->Yj}:∀l:Yb α,(l.filter P).isEmpty=!l.any P:=by intro l;induction l with|nil=>rfl|cons a l u=>simp only[pQ,List.any_cons];cases P a with|true=>rfl|false=>exact u
theorem Gr.T{js:Ln}(h:Gr b H js G)(m:Y9):Gr b H (js.drop m)<|G.drop m:=by unfold Gr;rw[mF,mF,h]
def XH(H:Hp)(v:V)(f:Fl)(σ':St):Prop:=f=.b v/\qs H σ'.h
theorem XI(h:Gs ls b H jG (Tx.wR (ls.drop b) 0 (ls.drop b).length) (Tx.tF (ls.drop b) (ls.drop b).length) σ)(hR:H.o jG=Y6 (.a<|kj R))(hj:jG<H.n)(hl:(ls.drop b).length<=200):Gd (ex Li (T pp n) σ)<|XH H<|AY b<|Tx.pu (ls.drop b)<|kS b R:=by
 have hS:qs H σ.h:=⟨eU h.k,h.d⟩;have hg:=(h.d jG hj).trans hR;have N:∀(loc:Yb<|Str×V)t,ev (T pp n).c (.F "good") ⟨σ.h,loc,σ.e,t⟩=.c (.g jG) ⟨σ.h,loc,σ.e,t⟩:=λloc t=>A8 (by rw[h.e];rfl) h.c;have hE:(Tx.wR (ls.drop b) 0 (ls.drop b).length).length<=1000:=g8 Tx.vq<|g8 hl iu;have X:(Tx.qf (ls.drop b) (kS b R) 5 (ls.drop b).length).isSome=Ye->∃a,((Tx.wR (ls.drop b) 0 (ls.drop b).length).filter λk=>!kS b R k).getLast?=Y6 a:=λq=>by refine bn (YU.mp q) λr J=>?_;obtain e:=Tx.tW J;obtain e:=bi q e;exact⟨_,e⟩
 unfold Tx.pu;rw[<-Tx.z6]at X⊢;generalize Tx.wR (ls.drop b) 0 (ls.drop b).length=E at h hE X⊢;refine cc h.g λjs g1 g2 g3 g4=>?_;obtain g5:=g2.T<|js.length-5;obtain hgrp:ev (T pp n).c xt σ=.c (.h<|((js.drop<|js.length-5).map V.g).filter<|E6 R σ.h) σ:=by
  refine Hv (E6 R σ.h) (vi:=.h<|(js.drop<|js.length-5).map V.g) (vK (qA h.groups) (uK (i:=5)) (Y7:ev (T pp n).c .none σ=.c .none σ) ?_) Y7 (λy hy=>?_) (by rw[n5,r9];exact g8 (Nat.sub_le_iff_le_add.mpr dk) (by decide:5<=1000));.show(sv<|σ.o<|H.n+2).elim Ov.a (λxs=>.b<|.h<|qh xs (Y6<|-((5:Y9):Yh)) Y8)=_;rw[g1];show Ov.b (.h<|qh (js.map V.g) (Y6<|-((5:Y9):Yh)) Y8)=_;rw[HJ 5 iu,n5,mF]
  .refine am (YD.mp hy) λj hj I=>?_;subst I;refine am (g5.N hj) λg z S=>?_;rw[(by show(sv<|σ.o j).elim Yc (z8 R)=_;rw[S];rfl:E6 R σ.h (.g j)=z8 R (gB b g))];refine(vB (q:=z8 R<|gB b g) (zR (qA (cx:=(T pp n).c) (σ:=⟨σ.h,[("group",.g j)],σ.e,Y8⟩) (x:="group") Y7) (xP (es:=.l) Y7 iu)<|HH S HF) λq=>?_).trans (by cases g<;>rfl);cases g with|nil=>exact pz q|cons r g=>exact zR (xE (qA (x:="group") Y7) (Y7:ev (T pp n).c (.k 0) _=.c (.d ((0:Y9):Yh)) _)<|xV (xs:=gB b<|r::g) (j:=0) Y7 (show sv (σ.o j)=_ by rw[S];rfl) iu (vL<|by exact eG _) Y7) (N _ _) (E8 hg).1
 have U:=zR hgrp (xP (cx:=(T pp n).c) (σ:=σ) (es:=.l) Y7 iu)<|am (E5<|λv hv=>by refine am (YD.mp (p_.mp hv).1) λj hj I=>?_;subst I;exact am (g5.N hj) λg z S=>⟨_,Cq (HG<|List.map (λx=>b+x) g) S⟩) λz h1 h2=>Ob h1 h2;rw[XG,sI,Xx g5,g2.J]at U;generalize(Tx.tF (ls.drop b) (ls.drop b).length).drop ((Tx.tF (ls.drop b) (ls.drop b).length).length-5)=F at U X⊢;have Y:sv (σ.o<|H.n+1)=Y6 (gB b E):=by rw[h.f];rfl
 refine qM U (λq=>?_) λq=>?_;.rw[d9 q];refine bn (X q) λa ha=>?_;rw[ha];obtain O:=Hv (x:="k") (Od R) (qA (cx:=(T pp n).c) h.a) Y (λy hy=>by refine am (YD.mp hy) λi z I=>?_;subst I;exact zR (qA (x:="k") Y7) (N _ _) (E8 hg).1) (by rw[E7];exact hE);rw[XF]at O;exact qF<|zY (xE O uK<|Oc (a:=.h _) Y7 Y7<|by unfold gB kj;rw[iA,iA,ha];rfl) ⟨Y7,hS⟩
 rw[d8<|by rw[q];decide];have L:∀r E',E=r::E'->ev (T pp n).c (.q "every"<|.k 0) σ=.c (.d ((b+r:Y9):Yh)) σ:=λr E' e=>xE (qA h.a) (Y7:ev (T pp n).c (.k 0) _=.c (.d ((0:Y9):Yh)) _)<|xV (xs:=gB b E) (j:=0) Y7 Y iu (vL<|by rw[E7,e];exact eG _) (by rw[e];rfl);have O:=vB (zR (qA (cx:=(T pp n).c) h.a) (xP (cx:=(T pp n).c) (σ:=σ) (es:=.l) Y7 iu)<|HH h.f HF) (q:=z8 R<|gB b E) λq=>by cases u:E with|nil=>rw[u]at q;exact pz q|cons r E'=>exact zR (L r E' u) (N _ _) (E8 hg).1
 rw[(by cases E<;>rfl:(!(gB b E).isEmpty&&z8 R (gB b E))=z8 R (gB b E)),Oa]at O;refine qM O (λq=>?_) λq=>?_;.refine bn (YU.mp q) λr J=>?_;rw[J];cases u:E with|nil=>rw[u]at J;exact lz J|cons a E'=>
   have:a=r:=by
    rw[u]at J;have Z:=J;by_cases q:kS b R a=Ye;.exact lz<|bi q Z
    .exact c0<|bc q Z
   subst this;exact qF<|zY (L a E' u) ⟨Y7,hS⟩
 .rw[show Tx.pb (kS b R) E=Y8 from Option.not_isSome_iff_eq_none.mp<|by rw[q];decide];exact qF<|zY (v:=.none) (a7:=σ) Y7 ⟨Y7,hS⟩
def XJ(ls:Yb<|Ln)(b:Y9)(H:Hp)(jG:Y9)(l:Yb V)(σ:St):Prop:=∃k,l=(eM k<|(ls.drop b).length-k).map (λ(i:Y9)=>V.d ((b+i:Y9):Yh))/\k<=(ls.drop b).length/\Gs ls b H jG (Tx.wR (ls.drop b) 0 k) (Tx.tF (ls.drop b) k) σ
theorem XK(J:∀l∈ls,y6 l)(N:ls.length<=200)(L:b<=ls.length)(O:H.o jG=Y6 (.a<|kj R))(hj:jG<H.n):∃σ',(T pp<|n+2).i (.m<|.ref 287) [tm ls,.d (b:Y9),.g jG] H=.c (AY b<|Tx.pu (ls.drop b)<|kS b R) σ'/\qs H σ'.h:=by
 obtain main:Gd (ex GC (T pp<|n+1)<|li px ((["rows","base","good"]:Yb Yg).zip [tm ls,.d (b:Y9),.g jG]) H) λf σ'=>f=.b (AY b<|Tx.pu (ls.drop b)<|kS b R)/\qs H σ'.h:=by
  obtain h1:(li px ((["rows","base","good"]:Yb Yg).zip [tm ls,.d (b:Y9),.g jG]) H).I "rows"<|tm ls:=by rfl
  obtain h4:(li px ((["rows","base","good"]:Yb Yg).zip [tm ls,.d (b:Y9),.g jG]) H).I "base"<|.d (b:Y9):=by rfl
  obtain h2:(li px ((["rows","base","good"]:Yb Yg).zip [tm ls,.d (b:Y9),.g jG]) H).h=H.add (.cell<|some<|.g jG):=by rfl
  obtain h3:(li px ((["rows","base","good"]:Yb Yg).zip [tm ls,.d (b:Y9),.g jG]) H).e=[(("good":Yg),H.n)]:=by rfl
  generalize li px ((["rows","base","good"]:Yb Yg).zip [tm ls,.d (b:Y9),.g jG]) H=σ at h1 h2 h3 h4⊢;obtain hnx:σ.n=H.n+1:=i6 Hp.n h2;obtain o3:∀i,i<H.n->σ.o i=H.o i:=λi hi=>(i6 (λh=>Hp.o h i) h2).trans<|d8<|v9 hi;refine qF<|C4 (xs:=[]) (a7:=σ) (xP Y7 iu) ?_;refine qF<|C4 (xs:=[]) (xP Y7 iu) ?_;refine zJ5 (by show σ.n+1=_;rw[hnx]:((σ.add<|.a []).F "every"<|.g σ.n).n=H.n+2)<|zJ5 hnx ?_;have low:∀i,i<H.n+1->((((σ.add<|.a []).F "every"<|.g<|H.n+1).add<|.a []).F "groups"<|.g<|H.n+2).o i=σ.o i:=λi hi=>(d8<|by show i≠σ.n+1;refine ?_;lia).trans<|d8 (by refine ?_;lia);obtain hG:Gs ls b H jG (Tx.wR (ls.drop b) 0 0) (Tx.tF (ls.drop b) 0)<|(((σ.add<|.a []).F "every"<|.g<|H.n+1).add<|.a []).F "groups"<|.g<|H.n+2:=⟨ru<|ru h1,ru qH,qH,h3,(low _<|u8 _).trans<|(i6 (λh=>Hp.o h H.n) h2).trans<|d9 Y7,(d8<|by show H.n+1≠σ.n+1;erw[hnx];simp).trans<|d9 hnx.symm,⟨[],d9<|by show H.n+2=σ.n+1;rw[hnx],Y7,sD,λz h=>tq h⟩,by show H.n+3<=σ.n+1+1;rw[hnx];exact j7 _,λi hi=>(low i<|dI hi).trans<|o3 i hi⟩;obtain hB:((((σ.add<|.a []).F "every"<|.g<|H.n+1).add<|.a []).F "groups"<|.g<|H.n+2).I "base"<|.d (b:Y9):=ru<|ru h4;generalize(((σ.add<|.a []).F "every"<|.g<|H.n+1).add<|.a []).F "groups" (.g<|H.n+2)=σ at hG hB⊢;have I:b+(ls.drop b).length=ls.length:=by rw[r9 ..];exact dR L
  obtain⟨r1,r2⟩:=Nd (n:=b) (k:=(ls.drop b).length) (by lia);have F:∀H:Hp,mu H (.q (b:Y9) ((b+(ls.drop b).length:Y9):Yh) 1)=Y6 ((eM 0 (ls.drop b).length).map λ(i:Y9)=>.d ((b+i:Y9):Yh)):=λH=>by show Y6 ((pZ (m6 (b:Y9) ((b+(ls.drop b).length:Y9):Yh) 1).toNat).map λ(i:Y9)=>V.d<|(b:Yh)+(i:Yh)*1)=_;refine zJ5 r2<|zJ5 List.range_eq_range' ?_;refine i6 (λf=>Y6<|(eM 0 (ls.drop b).length).map f)<|funext λi=>?_;rw[Int.mul_one,Int.natCast_add]
  refine qK<|Do (zE (σ':={h:=σ.h,l:=[]}) (qQ<|by erw[bT.b];rfl) (qD (qA hB)<|qD (Cl (i:=((b+(ls.drop b).length:Y9):Yh)) (qA hG.rows)<|by show nj (.d ((((ls.map (·++[10])).map tx).map V.f).length:Y9)) _=_;rw[n5,n5,n5,I]) Y7)<|by rw[DA,yN,M5];exact d9 r1) (F _)
   (XJ ls b H jG)
   ⟨0,Y7,v8 _,hG⟩ (λl σ z=>F _) ?_ ?_
  .rintro y r σ⟨k,e,hk,h⟩;have u:k<(ls.drop b).length:=bI hk λq=>by rw[q,gV]at e;exact Ab e
   rw[dl u,oX,gH]at e;obtain⟨rfl,rfl⟩:=r4 e;refine(XE (pp:=pp) (n:=n) ⟨ru h.rows,ru h.a,ru h.groups,h.e,h.c,h.f,h.g,h.k,h.d⟩ qH (r7 u) (J _<|fC<|gT u) N).mono ?_;rintro f σ'⟨rfl,h'⟩;exact⟨k+1,Y7,u,h'⟩
  .rintro σ⟨k,e,hk,h⟩;obtain hkk:k=(ls.drop b).length:=eO λq=>by rw[dl<|bI hk q,oX,gH]at e;exact AZ e
   subst hkk;exact XI h O hj<|by lia
 obtain⟨f,σ',e,rfl,w⟩:=main;exact⟨σ',Hu iu (by rfl) Y7 e Y7,w⟩
end
theorem XM{x:Yg}{gl:Ln}{r:R2}(h:kG x gl=Y6 r):r.s.b.length<=1000:=by
 have F:∀a b:Yh,qq x a b=Y6 r->r.s.b.length<=1000:=λa b h=>by
  refine jk h λs h1 I=>?_;subst I;refine jh h1 λs' z h2=>?_;by_cases q:s'.a.length<=1000/\s'.b.length<=1000;.replace h2:=bi q h2;obtain rfl:=c0 h2;exact q.2
  .replace h2:=bc q h2;cases h2
 by_cases q:gl.length=0\/gl.length>1000;.replace h:=bi q h;cases h
 .obtain h:=bc q h;refine jh h λu z h=>?_;by_cases L:u.1=0
  .replace h:=bi L h;by_cases J:u.2.1=0;.obtain h:=bi J h;exact F _ _ h
   .replace h:=bc J h;cases h
  .obtain h:=bc L h;exact F _ _ h
theorem tM.u{l:Ln}(h:tM l):qa l:=λc hc=>by rw[h.b]at hc;exact(c0 hc).symm
theorem Oe{R:Ln}(h:0<R.length-1):∃G p q,R=G++[p,q]:=by
 rcases iK R with z|⟨T,q,rfl⟩;.rw[z]at h;exact g9 h iu
 rcases iK T with z|⟨G,p,rfl⟩;.rw[z]at h;exact g9 h<|fD 0
 exact⟨G,p,q,by simp⟩
theorem XN{c:Y9}{r t:Ln}:∀{row:Ln},row.dropWhile mf=c::r->(row++t).dropWhile mf=c::r++t:=by intro row;induction row with|nil=>exactλh=>AZ h|cons d row u=>
  intro h;rw[w9]at h;rw[nP,w9];by_cases q:mf d=Ye;.rw[d9 q]at h;exact(d9 q).trans<|u h
  .rw[d8 q]at h;exact(d8 q).trans<|i6 (·++t) h
theorem Of{l:Ln}{g:Y9}(h:tM l)(u:Tx.nm (mn l) g):mj (kd l g)=Yc/\g<l.count 10:=by
 have hg:g<(mn l).length:=by refine bn (YU.mp u) λe I=>bn (Tx.sr I) λh w=>h
 obtain hl:=r7 hg;rw[Tx.ut hl<|Tx.y5 hl<|by rw[Cn h.u];exact h.e]at u;refine⟨?_,Cm l▸hg⟩;rw[<-NU h.u,dK hg,Tx.oa];generalize(mn l)[g]=row at u;obtain⟨h5,F⟩:=Tx.us _<|Tx.Aa _<|List.contains_iff_mem.mp u;unfold Tx.wj at h5 F;cases hd:row.dropWhile mf with|nil=>rw[hd]at h5;exact g9 Y7 h5|cons c r=>
  rw[hd,v6]at h5 F;by_cases q:u2 c=Ye
  .unfold mj;rw[XN hd];refine(d8 λz=>?_).trans<|d8 λz=>?_;.rw[z]at q;exact g9 q jg
   .rw[z]at q;exact g9 q jg
  .exact g9 (d8 q) h5
structure Cr(l R:Ln)(c:Y9)(A:wz)(m:Yh)(g:Y9)(G0:Ln)(p0 q0:Y9)(A':wz):Prop where
 a:∃M0,lu (kd l g) M0 (G0++[p0,q0]) c
 rows:∃G',R=G'++(G0++[p0,q0]).map (g+·)b:py (tx<|kd l g) (G0++[p0,q0]) c A'
 d:A'.a.s.b.length<=1000
 e:wc (oe l g) A A'
 m:m=(q0:Yh)-p0
 f:kd l g≠[]
structure Kn(l R:Ln)(c:Y9)(A:wz)(m:Yh):Prop where
 text:tM l
 d:R.Pairwise (·<·)a:R.length<=201
 b:0∈R
 rest:∀g,g∈R->g=0\/Tx.nm (mn l) g=Ye->∃G0 p0 q0 A',Cr l R c A m g G0 p0 q0 A'
theorem XO{l:Ln}(h:tM l):∃R c A m,Kn l R c A m:=by
 obtain hx:(tx l).length=l.length:=E4 l;obtain hlen:=h.a;refine dp (Ci h.u) λM R c t=>am (WF (x:=tx l) Y7 (by lia) t h.d) λA h1 h2=>?_;have I:0<l.count 10:=YZ.mpr<|gY h.b;refine dp (Oe<|Hi t I) λG p q e=>⟨R,c,A,(q:Yh)-p,h,t.Z,g8 t.X<|m9 hlen,am t.T λu O w=>by rw[O];exact .head _,λg hg hz=>?_⟩;have F:g<l.count 10:=by
  rcases hz with rfl|hz;.exact I
  .exact(Of h hz).2
 refine dq (h2 g (tx<|kd l g) (t.jr hg F) Y7<|hz.imp_right λz=>Of h z) λM0 R0 G' A' t0 e0 J m0=>?_;have h3:0<(kd l g).count 10:=by have:=zW (l:=l) (r:=g)<|n6 F;lia
 refine dp (Oe<|Hi t0 h3) λG0 p0 L e1=>?_;clear F I hlen hx h;subst e1;refine⟨G0,p0,L,A',⟨M0,t0⟩,⟨G',e0⟩,J,XM J.st,m0,?_,λz=>by rw[z]at h3;exact fD 0 h3⟩;rw[e]at e0;obtain⟨_,N⟩:=List.append_inj' (by rw[e0,eQ,v5];rfl:G++[p,q]=G'++G0.map (g+·)++[g+p0,g+L]) Y7;obtain⟨T,S⟩:=r4 N;obtain e6:=(r4 S).1;lia
def uc:Yb<|Str×Y9:=[("part",4),("good",3),("base",2),("first",1)]
structure Fw(ls:Yb<|Ln)(jD kL:Y9)(σ:St):Prop where
 e:σ.e=uc
 d:σ.a=Y6 (0,lq)rows:σ.I "rows"<|tm ls
 b:σ.I "due"<|.g jD
 left:σ.I "left"<|.g kL
structure Wh(R:Ln)(D:Yb V)(jD jG kL dL:Y9)(f:Yd V)(b:Y9)(pt:Yd V)(fs:ly)(H:Hp):Prop where
 j:H.o 0=Y6 (.d lq)k:H.o 1=Y6 (.cell f)e:H.o 2=Y6 (.cell<|some<|.d (b:Y9))g:H.o 3=Y6 (.cell<|some<|.g jG)l:H.o 4=Y6 (.cell pt)c:H.o jG=Y6 (.a<|kj R)d:H.o jD=Y6 (.a D)left:PO H kL dL fs
 i:5<=jG/\5<=jD/\5<=kL/\5<=dL/\jG≠dL/\jD≠dL/\jG<H.n/\jD<H.n/\kL<H.n/\dL<H.n
section
variable{pp:dE}{n jD jG kL dL b b' r m:Y9}{H H':Hp}{σ:St}{R:Ln}{D:Yb V}{ls:Yb<|Ln}{f pt pt':Yd V}{fs fs':ly}{cx:Cx}
theorem Fw.heap(h:Fw ls jD kL σ):Fw ls jD kL {σ with h:=H}:=⟨h.e,h.d,h.rows,h.b,h.left⟩
theorem Fw.I{cx:Cx}(h:Fw ls jD kL σ)(x:Yg){c:Y9}{v:V}(hc:uc.lookup x=Y6 c)(u:σ.o c=Y6 (.cell<|some v)):ev cx (.F x) σ=.c v σ:=A8 (by rw[h.e];exact hc) u
theorem Fw.F(h:Fw ls jD kL σ){y:Yg}{v:V}(h1:(("rows":Yg)==y)=Yc)(h2:(("due":Yg)==y)=Yc)(h3:(("left":Yg)==y)=Yc):Fw ls jD kL<|σ.F y v:=⟨h.e,h.d,qG h1 h.rows,qG h2 h.b,qG h3 h.left⟩
theorem Wh.F(h:Wh R D jD jG kL dL f b pt fs H)(hs:qs H H'):Wh R D jD jG kL dL f b pt fs H':=by obtain hl:=h.i;have h1:=hs.1;exact⟨(hs.2 0<|by lia).trans h.j,(hs.2 1<|by lia).trans h.k,(hs.2 2<|by lia).trans h.e,(hs.2 3<|by lia).trans h.g,(hs.2 4<|by lia).trans h.l,(hs.2 jG<|by simp_all).trans h.c,(hs.2 jD<|by simp_all).trans h.d,h.left.T (hs.2 kL<|by simp_all)<|hs.2 dL<|by simp_all,by lia⟩
theorem Wh.I(h:Wh R D jD jG kL dL f b pt fs H){b':Y9}:Wh R D jD jG kL dL f b' pt fs<|km H 2<|.cell<|some<|.d (b':Y9):=by obtain hl:=h.i;exact⟨(qE iu).trans h.j,(qE iu).trans h.k,mi,(qE iu).trans h.g,(qE iu).trans h.l,(qE<|by lia).trans h.c,(qE<|by lia).trans h.d,h.left.S (by lia)<|by lia,hl⟩
theorem Wh.J(h:Wh R D jD jG kL dL f b pt fs H){v:V}:Wh R D jD jG kL dL f b (Y6 v) fs<|km H 4<|.cell<|some v:=by obtain hl:=h.i;exact⟨(qE iu).trans h.j,(qE iu).trans h.k,(qE iu).trans h.e,(qE iu).trans h.g,mi,(qE<|by lia).trans h.c,(qE<|by lia).trans h.d,h.left.S (by lia)<|by lia,hl⟩
theorem Wh.u(h:Wh R D jD jG kL dL f b pt fs H){fs':ly}:Wh R D jD jG kL dL f b pt fs'<|km H dL<|.dict fs':=by obtain hl:=h.i;exact⟨(qE<|by lia).trans h.j,(qE<|by lia).trans h.k,(qE<|by lia).trans h.e,(qE<|by lia).trans h.g,(qE<|by lia).trans h.l,(qE<|by simp_all).trans h.c,(qE<|by simp_all).trans h.d,h.left.N,hl⟩
theorem XQ{ps:Yb Yg}{x:X}{cs:Yb<|Str×Y9}{args:Yb V}:∀n,(T pp<|n+1).i (.r ps x cs) args H=Bm ps x cs (T pp n).c args H|0=>Y7|_+1=>Y7
theorem XR{l:Ln}:sY (tx l) "\n"=((l.count 10:Y9):Yh):=by
 obtain hoc:∀(l:Ln)(i:Y9),(oc [10] i 0 l).length=l.count 10:=by intro l;induction l with|nil=>intro i;rfl|cons c l u=>
   intro i;by_cases hc:c=10;.subst hc;obtain e1:oc [10] i 0 (10::l)=i::oc [10] (i+1) 0 l:=Y7;rw[e1,m4,u,iB]
   .obtain e1:oc [10] i 0 (c::l)=oc [10] (i+1) 0 l:=d8 λq=>hc (r4<|q).1;rw[e1,u,nH hc]
 unfold sY;rw[AN,Dn (x:=tx l) (y:=[10]) iu,hoc];rfl
theorem XS{ls:Yb<|Ln}(hL:Tx.nw ls):(Tx.kl ls).count 10=ls.length:=by induction ls with|nil=>rfl|cons r I F=>simp only[Tx.oa,hN,List.count_eq_zero.mpr<|hL r<|.head _,iB,F λl u=>hL l<|.tail _ u,m4];exact fA _
theorem Og(r:Y9):Tx.kl ls=Tx.kl (ls.take r)++Tx.kl (ls.drop r):=by rw[<-Tx.oq,eW]
theorem HK(u:Wh R D jD jG kL dL f b (Y6<|.f<|tx<|Tx.kl<|ls.drop b) fs H)(hL:Tx.nw ls):AX pp (n+1) (.r ["place"] Lj uc) (ls.drop b) (kS b R) H:=λr I=>by rw[XQ];refine⟨{h:=H,l:=[("place",.d (Tx.ld (ls.drop b) r:Y9))],e:=uc},(d9 Y7).trans ?_,Y7⟩;exact zR (qS (A8 (c:=2) (by rfl) u.e)<|qT (cx:=(T pp n).c) (σ':={h:=H,l:=[]}) (vK (A8 (c:=4) (by rfl) u.l) Y7 (qA (x:="place") Y7) Y7) (zV bT<|by rfl) (qD Y7 Y7) (v:=.d (r:Y9))<|by rw[bT.a];show nz "str.count" [.f<|tx<|qh (Tx.kl<|ls.drop b) Y8<|some ((Tx.ld (ls.drop b) r:Y9):Yh),.f "\n"] _=_;rw[Xl,E0,Og (ls:=ls.drop b) r,show Tx.ld (ls.drop b) r=(Tx.kl<|(ls.drop b).take r).length from Y7,oT];show nj (.d<|sY (tx _) "\n") H=_;rw[XR,XS λl F=>hL l<|fC<|gX F,dF,w7<|n6 I];rfl) (A8 (c:=3) (by rfl) u.g) (E8 u.c).2
theorem HL{α β:Type}{f:α->β}{xs:Yb α}{a b:Yd Yh}:qh (xs.map f) a b=(qh xs a b).map f:=by unfold qh;simp only[n5,sN,mF]
theorem HM{ls:Yb<|Ln}{a lo hi:X}{l h:V}{o o':Yd Yh}(I:ev cx a σ=.c (tm ls) σ)(u:ev cx lo σ=.c l σ)(F:ev cx hi σ=.c h σ)(hv:∀xs:Yb V,yO σ.h (.h xs) l h=.b (.h<|qh xs o o')):ev cx (.z a lo hi) σ=.c (tm<|qh ls o o') σ:=by refine vK I u F<|(hv _).trans ?_;rw[HL,HL,HL];rfl
end
structure Rw(ls:Yb<|Ln):Prop where
 a:Tx.nw ls
 d:∀c∈Tx.kl ls,c<128
 b:(Tx.kl ls).length<=200
 rows:∀l∈ls,y6 l
 n:ls.length<=200
 f:0<ls.length
section
variable{pp:dE}{n jD jG kL dL b b' r m:Y9}{H H':Hp}{σ:St}{R:Ln}{D:Yb V}{ls:Yb<|Ln}{f pt pt':Yd V}{fs fs':ly}
theorem uO{u:Yb<|Ln}(h:u.Sublist ls):(Tx.kl u).Sublist<|Tx.kl ls:=by induction h with|slnil=>exact .slnil|cons a _ F=>rw[Tx.oa];exact(F.cons 10).trans<|List.sublist_append_right _ _|cons_cons a _ F=>rw[Tx.oa,Tx.oa];exact(E_ a).append<|(E_ [10]).append F
theorem Rw.I(h:Rw ls){e:X}{u:Yb<|Ln}(hs:u.Sublist ls)(F:ev (T pp n).c e σ=.c (tm u) σ):ev (T pp n).c (.m (.h "") "join"<|.d e .l) σ=.c (.f<|tx<|Tx.kl u) σ:=qT (σ':={h:=σ.h,l:=[]}) (vo:=.f "") Y7 (zV bT NI) (qD F Y7)<|by rw[bT.a];show nz "str.join" [.f "",tm u] _=_;unfold tm;rw[NJ,NV (λc hc=>h.d c<|(uO hs).subset hc)<|g8 (uO hs).length_le<|g8 h.b iu];rfl
theorem Rw.J(h:Rw ls){e:X}{u:Yb<|Ln}(hs:u.Sublist ls)(F:ev (T pp n).c e σ=.c (tm u) σ):ev (T pp n).c (.n (.g "len")<|jm<|.m (.h "") "join"<|.d e .l) σ=.c (.d ((Tx.kl u).length:Y9)) σ:=Cl (h.I hs F)<|by rfl
theorem Oh(h:σ.I "rows"<|tm ls):ev (T pp n).c (jn "rows") σ=.c (.d (ls.length:Y9)) σ:=Cl (qA h)<|by show nj (.d ((((ls.map (·++[10])).map tx).map V.f).length:Y9)) _=_;rw[n5,n5,n5]
theorem XT(h:0<ls.length):∃l,Tx.kl ls=l++[10]:=by
 rcases iK ls with z|⟨u,d,rfl⟩;.simp only[z]at h;exact g9 h<|fD 0
 .refine⟨Tx.kl u++d,?_⟩;simp only[iL,Tx.oq,Tx.oa,Tx.y4,v5]
structure E9(ls:Yb<|Ln)(R:Ln)(D:Yb V)(jD jG kL dL b:Y9)(σ:St):Prop where
 d:Fw ls jD kL σ
 e:∃fs,Wh R D jD jG kL dL Y8 b (Y6<|.f<|tx<|Tx.kl<|ls.drop b) fs σ.h/\FsP fs 4 8 (tx<|Tx.kl<|ls.drop b) 0
 c:σ.I "found"<|BB (ls.drop b)<|Tx.pu (ls.drop b)<|kS b R
 a:σ.I "number"<|AY b<|Tx.pu (ls.drop b)<|kS b R
 b:b<=ls.length
theorem Ea{e:X}{o:Yd Yh}(u:ev (T pp n).c e σ=.c (o.elim .none .d) σ):ev (T pp n).c (.j .Is e .none) σ=.c (.j o.isNone) σ/\ev (T pp n).c (.j .IsNot e .none) σ=.c (.j o.isSome) σ:=by cases o<;>exact⟨zR u (Y7:ev (T pp n).c .none σ=.c .none σ) Y7,zR u (Y7:ev (T pp n).c .none σ=.c .none σ) Y7⟩
def HN(ls:Yb<|Ln)(R:Ln)(D:Yb V)(jD jG kL dL b:Y9)(f:Fl)(σ':St):Prop:=E9 ls R D jD jG kL dL b σ'/\(f=.a/\b≠0\/f=.d/\(Tx.pu (ls.drop b) (kS b R)=Y8->b=0))
theorem XU(O:Rw ls)(J:Fw ls jD kL σ)(u:Wh R D jD jG kL dL Y8 b (Y6<|.f<|tx<|Tx.kl<|ls.drop b) fs σ.h)(V:FsP fs 4 8 (tx<|Tx.kl<|ls.drop b) 0)(U:b<=ls.length)(F:σ.I "found"<|BB (ls.drop b)<|Tx.pu (ls.drop b)<|kS b R):Gd (ex Lk (T pp 6) σ)<|HN ls R D jD jG kL dL b:=by
 refine am (XK (pp:=pp) (n:=4) (H:=σ.h) O.rows O.n U u.c u.i.2.2.2.2.2.2.1) λL e1 e2=>kb (zE (cx:=(T pp 6).c) (qQ<|by refine ?_;rfl) (qD (qA J.rows)<|qD (J.I "base" Y7 u.e)<|qD (J.I "good" Y7 u.g) Y7) e1) ?_;obtain hA:E9 ls R D jD jG kL dL b<|({σ with h:=L.h}:St).F "number"<|AY b<|Tx.pu (ls.drop b)<|kS b R:=⟨J.heap.F iu iu iu,⟨fs,u.F e2,V⟩,ru F,qH,U⟩;generalize({σ with h:=L.h}:St).F "number" (AY b<|Tx.pu (ls.drop b)<|kS b R)=σ at hA⊢;refine am hA.e λfs u w=>?_;obtain F:=hA.c;have I:=hA.a;have last:Gd (ex (.d (.h (.H (.j .IsNot "found" .none)<|.j .Eq (.F "base")<|.k 0) (.d .u .g) .g) .g) (T pp 6) σ)<|HN ls R D jD jG kL dL b:=by
  refine qM (yb (Ea (n:=6) (pp:=pp) (o:=(Tx.pu (ls.drop b)<|kS b R).map λr=>((Tx.ld (ls.drop b) r:Y9):Yh))<|qA<|F.trans<|by cases Tx.pu (ls.drop b)<|kS b R<;>rfl).2 λw=>xQ (hA.d.I (cx:=(T pp 6).c) "base" Y7 u.e) (Y7:ev (T pp 6).c (.k 0) σ=.c (.d ((0:Y9):Yh)) σ)) (λq=>qF<|Mine.Lake.q9 ⟨hA,.inr ⟨Y7,λz=>?_⟩⟩) λq=>qC ⟨hA,.inl ⟨Y7,λz=>?_⟩⟩;.rw[z]at q;exact dn q
  .rw[z,iM]at q;exact su q.2
 cases N:Tx.pu (ls.drop b) (kS b R)with|none=>rw[N]at F I;exact qK<|zL (t:=Ye) (Ea (n:=6) (pp:=pp) (o:=Y8)<|qA I).1 Y7 (λw=>qM (t:=Yc) (Ea (n:=6) (pp:=pp) (o:=Y8)<|qA F).2 (λq=>pz q) λw=>qC last) λq=>su q|some r=>rw[N]at F I;obtain hlt:=(Tx.wf N).1;rw[r9]at hlt;obtain e1:=HM (o:=Y6 (b:Yh)) (qA (cx:=(T pp 6).c) hA.d.rows) (hA.d.I "base" Y7 u.e) (qA I) λw=>Y7;rw[(by show(ls.drop<|clipAt ls.length (b:Yh)).take (Z5 ls.length ((b+r:Y9):Yh)-Z5 ls.length (b:Yh))=_;rw[jK,jK,w7<|by lia,w7<|by omega,dD]:qh ls (Y6 (b:Yh)) (Y6 ((b+r:Y9):Yh))=(ls.drop b).take r)]at e1;have S:=Dq (qA (cx:=(T pp 6).c) F)<|O.J ((mQ _ _).trans<|hH _ _) e1;rw[show(((Tx.ld (ls.drop b) r:Y9):Yh)!=((Tx.kl<|(ls.drop b).take r).length:Y9))=Yc from bne_self_eq_false _]at S;exact qK<|zL (t:=Yc) (Ea (n:=6) (pp:=pp) (o:=Y6 ((b+r:Y9):Yh))<|qA I).1 Y7 (λq=>pz q) λw=>qM S (λq=>pz q) λw=>qC last
theorem XV{s O:Y9}(hs:0<s)(I:Rw ls)(F:Fw ls jD kL σ)(J:σ.I "size"<|.d (s:Y9))(u:Wh R D jD jG kL dL Y8 O pt fs σ.h)(N:AO fs 4 8):Gd (ex GD (T pp 6) σ)<|HN ls R D jD jG kL dL<|ls.length-s:=by obtain e1:=HM (o:=Y6<|-(s:Yh)) (o':=Y8) (qA (cx:=(T pp 6).c) F.rows) (by refine yr.trans<|(Rs.u<|qA J).trans ?_;rfl) (Y7:ev (T pp 6).c .none σ=.c .none σ) λq=>Y7;rw[HJ s hs]at e1;obtain hb:ls.length-s<ls.length:=iO I.f hs;refine qF<|yB (I.I (hH _ _) e1) (wV (c:=4) (by rw[F.e];rfl) u.l) ?_;obtain u:=u.J;obtain F:=F.heap;obtain J:({σ with h:=km σ.h 4<|.cell<|some<|.f<|tx<|Tx.kl<|ls.drop<|ls.length-s}:St).I "size"<|.d (s:Y9):=J;obtain u:Wh R D jD jG kL dL Y8 O _ fs ({σ with h:=km σ.h 4<|.cell<|some<|.f<|tx<|Tx.kl<|ls.drop<|ls.length-s}:St).h:=u;generalize({σ with h:=km σ.h 4<|.cell<|some<|.f<|tx<|Tx.kl<|ls.drop<|ls.length-s}:St)=σ at u F J⊢;obtain e2:ev (T pp 6).c (.n (.g "max")<|.d (.k 0)<|jm<|.t .Sub (jn "rows") "size") σ=.c (.d ((ls.length-s:Y9):Yh)) σ:=zE (σ':={h:=σ.h,l:=[]}) (qQ<|by refine ?_;rfl) (qD Y7<|qD (kJ (Oh F.rows)<|qA J) Y7) (by show nj (.d<|if(ls.length:Yh)-s>0 then(ls.length:Yh)-s else 0) σ.h=_;rw[show(if(ls.length:Yh)-s>0 then(ls.length:Yh)-s else 0)=((ls.length-s:Y9):Yh)by split<;>lia];rfl);generalize ls.length-s=b at e2 hb u⊢;refine qF<|yB e2 (wV (c:=2) (by rw[F.e];rfl) u.e) ?_;obtain u:=u.I (b':=b);obtain F:=F.heap;replace u:Wh R D jD jG kL dL Y8 b _ fs ({σ with h:=km σ.h 2<|.cell<|some<|.d (b:Y9)}:St).h:=u;generalize({σ with h:=km σ.h 2<|.cell<|some<|.d (b:Y9)}:St)=σ at u F⊢;have L:(Tx.kl<|ls.drop b).length<=200:=g8 (uO<|hH _ _).length_le I.b;refine am (M2 (pp:=pp) (n:=5) (by exact g8 L iu) (.inr<|XT<|by rw[r9];exact lD hb) u.left N) λZ S U=>zF (qT (qA F.left) (u.left.L bT (N.a.m iu)<|by rfl) (qD (F.I "part" Y7 u.l) Y7) S) ?_;rw[U];obtain hP:=N.u<|tx<|Tx.kl<|ls.drop b;obtain u:=u.u;obtain F:=F.heap;obtain u:Wh R D jD jG kL dL Y8 b _ _ ({σ with h:=km σ.h dL<|.dict<|kn "study_level" (.d 0)<|kn "code" (.f<|tx<|Tx.kl<|ls.drop b) fs}:St).h:=u;generalize({σ with h:=km σ.h dL<|.dict<|kn "study_level" (.d 0)<|kn "code" (.f<|tx<|Tx.kl<|ls.drop b) fs}:St)=σ at u F⊢;generalize kn "study_level" (.d 0) (kn "code" (.f<|tx<|Tx.kl<|ls.drop b) fs)=fs at u hP;refine am (Xd (pp:=pp) (n:=5) (ls:=ls.drop b) (bar:=kS b R) (HK (n:=4) u I.a) (λl V=>I.a l<|fC V) (g8 L iu) u.left hP.code) λσ3 X Y=>?_;obtain c3:=qT (qA (cx:=(T pp 6).c) F.left) (u.left.L bT (hP.t.m iu) (m:="find_good_parse_start") (a:=186)<|by rfl) (qD (by rw[TX,F.e];unfold vc;rw[F.d];dsimp only;rw[u.j];exact d9 Y7) (Y7:ev (T pp 6).c .l σ=.c (.h []) σ)) X;rw[Y]at c3;exact kb c3<|XU I (F.F iu iu iu) u hP (n6 hb) qH
end
section
variable{pp:dE}{n jD jG kL dL b c r g:Y9}{m m':Yh}{H H':Hp}{σ:St}{l R:Ln}{D:Yb V}{ls:Yb<|Ln}{f pt:Yd V}{fs:ly}{A A':wz}{Q:Fl->St->Prop}{ns:Yb Yh}
def XW(R:Ln)(D:Yb V)(jD jG kL dL:Y9)(ls:Yb<|Ln)(xs:Yb V)(σ:St):Prop:=(∃ys:Ln,xs=ys.map (λ(y:Y9)=>V.d (y:Yh))/\(∀y∈ys,0<y)/\ys.getLast?=Y6 ls.length)/\Fw ls jD kL σ/\∃b pt fs,Wh R D jD jG kL dL Y8 b pt fs σ.h/\AO fs 4 8
theorem XX(L:Rw ls)(u:Fw ls jD kL σ)(J:Wh R D jD jG kL dL Y8 b pt fs σ.h)(F:AO fs 4 8)(I:∀b σ,E9 ls R D jD jG kL dL b σ->(Tx.pu (ls.drop b) (kS b R)=Y8->b=0)->Gd (ex Dj (T pp 6) σ) Q):Gd (ex (.d (.p "size" (.r<|.d (.k 2)<|.d (.k 5)<|jm<|jn "rows") GD) Dj) (T pp 6) σ) Q:=by
 refine qK<|Do (xP (qD Y7<|qD Y7<|qD (Oh u.rows) Y7)<|by show 3<=k8;decide) Y7
  (XW R D jD jG kL dL ls)
  ⟨⟨[2,5,ls.length],Y7,λy hy=>by
   rcases Yn.mp hy with rfl|hy;.decide
   rcases Yn.mp hy with rfl|hy;.decide
   rw[Yw.mp hy];exact L.f,Y7⟩,u,b,pt,fs,J,F⟩ (λq q q=>Y7) ?_ ?_;.rintro y rest σ⟨⟨ys,e,hp,hl⟩,u,b,pt,fs,J,F⟩;cases ys with|nil=>exact nomatch hl|cons s ys=>
   obtain⟨rfl,rfl⟩:=r4 e;refine(XV (hp s<|.head _) L (u.F iu iu iu) qH J F).mono ?_;rintro f σ'⟨hA,h⟩;rcases h with⟨rfl,h⟩|⟨rfl,h⟩;.refine⟨⟨ys,Y7,λy hy=>hp y<|.tail _ hy,?_⟩,hA.d,am hA.e λfs h1 h2=>⟨_,_,fs,h1,⟨h2.t.L iu,h2.iw,h2.tw⟩⟩⟩;cases ys with|nil=>rw[show s=ls.length from c0 hl,gV]at h;exact g9 Y7 h|cons=>exact hl
   .exact I _ _ hA h
 .rintro σ⟨⟨ys,e,hp,hl⟩,_⟩;cases ys with|nil=>exact nomatch hl|cons=>exact AZ e
theorem Eb{cx:Cx}{e:X}{o:Yd Yh}(h:ev cx e σ=.c (o.elim .none .d) σ):ev cx (.H e<|.k 0) σ=.c (.d<|o.getD 0) σ:=by refine xu.trans<|(Rs.u h).trans ?_;clear h;cases o with|none=>rfl|some i=>
  by_cases q:i=0;.subst q;rfl
  .show(match Y6<|i !=0with|some Ye=>Rs.c (V.d i) σ|some Yc=>_|none=>.b)=_;rw[show(i !=0)=Ye from l_.mpr q];rfl
theorem Oi{s:Y9}(h:wc s A A'):lw c m A' (s:Y9)++vr A'.b=lw c m A 0++vr A.b:=by unfold lw;simp only[h.cl,h.y,h.e,h.c,h.a,h.b,(by simp only[h.d];unfold Cp;simp only[iX];refine iS λb q=>?_;show V.n [.d<|b.1+((s:Y9):Yh)+0,.d b.2]=_;simp only[oH]:Cp 0 A.a.s.b=Cp (s:Y9) A'.a.s.b),oH]
def Oj(g:Y9):V->V|.d i=>.d<|(g:Yh)+i|v=>v
def Ol(g:Y9)(v:V):Yj:=(qV v).elim Yc λi=>Yk<|i≥(g:Yh)
theorem XY{l:Ln}:(kj l).map (Oj g)=kj (l.map (g+·)):=by unfold kj;simp only[iX,iX];rfl
theorem Om{G' R0:Ln}(J:R.Pairwise (·<·)){M0:Mk}(t:lu (kd l g) M0 R0 c)(e:R=G'++R0.map (g+·)):R.filter (λi=>Yk<|g<=i)=R0.map (g+·):=by refine am t.T λu L q=>?_;rw[e]at J|-;obtain hlt:∀x∈G',x<g:=λx F=>(Z3.mp J).2.2 x F (g+0) (by rw[L];exact .head _);rw[nL,List.filter_eq_nil_iff.mpr λx F=>by have:=hlt x F;simp;exact this,oO];refine ZZ.mpr λx F=>am (YD.mp F) λy q I=>?_;subst I;exact i7<|m7 _ _
theorem XZ{a b:V}{D:ZW}(u:qg H 8 a=Y6 D)(F:qg H 8 b=Y6 D):wM H .Eq a b=.b (.j Ye):=by show Az ((qg H 8 a).bind λx=>(qg H 8 b).map λy=>fB x y)=_;refine zJ5 u<|zJ5 F ?_;show Ov.b (.j<|fB D D)=_;erw[O8 8 a D u];rfl
theorem z9{G0:Ln}{p0 Z:Y9}{fs:ly}(O:Kn l R c A m)(hr:Rw<|mn l)(hg:g<=(mn l).length)(J:Cr l R c A m g G0 p0 Z A')(u:Fw (mn l) jD kL σ)(I:Wh R (lw c m A 0++vr A.b) jD jG kL dL (Y6<|.d (g:Y9)) b pt fs σ.h)(hP:FsP fs 4 8 (tx<|kd l g) 0):Gd (ex Ll (T pp 6) σ) λf σ'=>f=.b (.j Ye)/\σ'.o 0=Y6 (.d lq):=by
 have Y:=O.text;obtain e1:=HM (o:=Y8) (o':=Y6 (g:Yh)) (qA (cx:=(T pp 6).c) u.rows) (Y7:ev (T pp 6).c .none σ=.c .none σ) (u.I "first" Y7 I.k) λq=>Y7;rw[E0]at e1;refine kb (v:=.d (oe l g:Y9)) ((hr.J (mQ _ _) e1).trans<|by rw[Hz Y.u];rfl) ?_;obtain hS:=@qH σ "start"<|.d (oe l g:Y9);obtain u:=u.F (y:="start") (v:=.d (oe l g:Y9)) iu iu iu;obtain I:Wh R (lw c m A 0++vr A.b) jD jG kL dL (Y6<|.d (g:Y9)) b pt fs (σ.F "start"<|.d (oe l g:Y9)).h:=I;generalize σ.F "start" (.d (oe l g:Y9))=σ at hS u I⊢;have S:=I.i;refine bn J.a λM0 t=>?_;have U:(kd l g).length<=200:=g8 (qO l g).length_le Y.a;obtain⟨y1,y2⟩:=t.Y J.f<|g8 U iu;obtain⟨F,j,a1,a2,a3,a4,a5,fs',L⟩:=O7 (pp:=pp) (n:=2) ⟨I.left,S.2.2.2.2.2.2.2.2.1,S.2.2.2.2.2.2.2.2.2,hP,wB (λc hc=>Y.d c<|(qO l g).mem hc)<|g8 U iu,y1,y2⟩ J.b J.d;rw[<-J.m,Oi J.e]at a5;obtain hk:=a2.a;refine am (E5 (H:=F.h) (m:=7)<|Xw (c:=c) (m:=m) (A:=A) (s:=0)) λds w1 q=>yK (t:=Yc) (WW (zE (cx:=(T pp 6).c) (σ:=σ) (qQ<|by refine ?_;rfl) (qD (qA u.left)<|qD (qA hS) Y7) a1) (qA u.b)<|Xv (Cq w1 a5)<|Cq w1<|(hk jD (by simp_all)<|by simp_all).trans I.d) (λz=>pz z) λq=>qC ?_;obtain f1:({σ with h:=F.h}:St).o 1=Y6 (.cell<|some<|.d (g:Y9)):=(hk 1 (by lia)<|by lia).trans I.k;obtain f3:({σ with h:=F.h}:St).o 3=Y6 (.cell<|some<|.g jG):=(hk 3 (by lia)<|by lia).trans I.g;obtain f5:sv (({σ with h:=F.h}:St).o jG)=Y6 (kj R):=by rw[hk jG (by simp_all)<|by simp_all,I.c];rfl
 obtain f0:({σ with h:=F.h}:St).o 0=Y6 (.d lq):=(hk 0 (by lia)<|by lia).trans I.j;obtain u:=u.heap (H:=F.h);obtain L:pg ({σ with h:=F.h}:St).h kL dL 4 8 (tx<|kd l g) (G0++[p0,Z]) c A'.a fs':=L;generalize({σ with h:=F.h}:St)=σ at f0 f1 f3 f5 u L⊢;have X:∀(loc:Yb<|Str×V)t,ev (T pp 6).c (.F "first") ⟨σ.h,loc,σ.e,t⟩=.c (.d (g:Y9)) ⟨σ.h,loc,σ.e,t⟩:=λloc t=>A8 (c:=1) (by rw[u.e];rfl) f1;refine bo L.st λi hi ho q=>bn J.rows λG' e=>?_;obtain hl0:(G0++[p0,Z]).length<=201:=by have:=i6 Ys e;rw[j9,n5]at this;have:=O.a;lia
 obtain e1:=Hr (σ:=σ) (x:="line") (Oj g) (qR (qA (cx:=(T pp 6).c) u.left)<|L.a.I bT (f:="goodlines") iu hi.d.a Y7) (show sv (σ.o i)=_ by rw[show σ.o i=_ from ho];rfl) (λv hv=>by refine am (YD.mp hv) λi hi N=>?_;subst N;exact qS (X _ Y8)<|qA (x:="line") Y7) (by unfold kj;rw[n5];exact g8 hl0 iu);rw[XY]at e1;obtain e2:=Hv (σ:=σ) (x:="line") (Ol g) (u.I (cx:=(T pp 6).c) "good" Y7 f3) (xs:=kj R) f5 (λv hv=>by refine am (YD.mp hv) λi hi N=>?_;subst N;exact wA (qA (x:="line") Y7)<|X _ Y8) (by unfold kj;rw[n5];exact g8 O.a iu);rw[(by refine q_.trans ?_;congr 1;exact List.filter_congr λi q=>y_.mpr Z9:(kj R).filter (Ol g)=kj (R.filter λi=>Yk<|g<=i)),Om O.d t e]at e2;exact am (E5 (H:=σ.h) (m:=7)<|HF (m:=6)) λds q hd=>qF<|zY (zR e1 e2<|XZ hd hd) ⟨Y7,f0⟩
theorem Y0(hL:Tx.nw ls)(u:r<=ls.length)(h:Tx.ld ls r≠0):(Tx.kl ls)[Tx.ld ls r-1]?=Y6 10:=by cases r with|zero=>exact g9 Tx.ou h|succ r=>exact(Tx.ry hL).mpr ⟨r,u,iT<|w5 h⟩
theorem Y1:Tx.nm (ls.drop b) r=Tx.nm ls (b+r):=by unfold Tx.nm Tx.mr;rw[iP]
theorem Y2(N:Kn l R c A m)(O:Rw<|mn l)(J:E9 (mn l) R (lw c m A 0++vr A.b) jD jG kL dL b σ)(hz:Tx.pu ((mn l).drop b) (kS b R)=Y8->b=0):Gd (ex Dj (T pp 6) σ) λf σ'=>f=.b (.j Ye)/\σ'.o 0=Y6 (.d lq):=by
 obtain hnl:=N.text.u;obtain hF:=J.d;refine am J.e λfs u I=>?_;refine bC λF=>?_;obtain⟨r,h1,h2,h3,h4,h5⟩:∃r,ev (T pp 6).c (.H "found"<|.k 0) σ=.c (.d (Tx.ld ((mn l).drop b) r:Y9)) σ/\(∀{σ:St},σ.I "number" (AY b<|Tx.pu ((mn l).drop b)<|kS b R)->ev (T pp 6).c (.H "number"<|.k 0) σ=.c (.d ((b+r:Y9):Yh)) σ)/\r<=((mn l).drop b).length/\b+r∈R/\(b+r=0\/Tx.nm (mn l) (b+r)=Ye):=by obtain hf:=J.c;cases L:Tx.pu ((mn l).drop b) (kS b R)with|none=>simp only[L]at hf;obtain rfl:=hz L;exact⟨0,(Eb (o:=Y8)<|qA hf).trans<|by simp only[Tx.ou];rfl,λh=>Eb (o:=Y8)<|qA h,v8 _,N.b,.inl Y7⟩|some r=>simp only[L]at hf;refine bC λF=>?_;obtain⟨i1,i2,i3⟩:=Tx.wf L;refine F ?_;refine⟨r,Eb (o:=Y6 ((Tx.ld ((mn l).drop b) r:Y9):Yh))<|qA hf,λh=>Eb (o:=Y6 ((b+r:Y9):Yh))<|qA h,n6 i1,?_,.inr<|Y1▸i2⟩;have:(!R.contains (b+r))=Yc:=i3;exact List.contains_iff_mem.mp<|by simpa using this
 obtain hbl:=J.b;refine F ?_;simp only[r9]at h3;obtain hy:Tx.kl ((mn l).drop<|b+r)=(Tx.kl<|(mn l).drop b).drop (Tx.ld ((mn l).drop b) r):=by simp only[Og (ls:=(mn l).drop b) r,show Tx.ld ((mn l).drop b) r=(Tx.kl<|((mn l).drop b).take r).length from Y7,gZ,lT]
 rw[NU hnl]at hy;refine bC λF=>?_;obtain⟨Z,Y,fs',U,X⟩:=Xu (pp:=pp) (n:=5) (x:=tx<|Tx.kl<|(mn l).drop b) (y:=tx<|kd l<|b+r) (by exact g8 (uO<|hH _ _).length_le<|g8 O.b iu) (by exact Tx.pr) (λh=>Y0 (λl S=>O.a l<|fC S) (by rw[r9];exact h3) h) hy u.left I;refine F ?_;refine zF (qT (qA hF.left) (u.left.L bT (I.t.m iu)<|by rfl) (qD h1 Y7) Y) ?_;simp only[U];refine bC λF=>?_;obtain I:=I.T X;obtain u:=u.u (fs':=fs');obtain hF:=hF.heap;obtain u:Wh R _ jD jG kL dL Y8 b _ fs' ({σ with h:=km σ.h dL<|.dict fs'}:St).h:=u;obtain hn:({σ with h:=km σ.h dL<|.dict fs'}:St).l.lookup ("number":Yg)=_:=J.a;refine F ?_;generalize({σ with h:=km σ.h dL<|.dict fs'}:St)=σ at u hF hn⊢;refine qF<|yB (h2 hn) (wV (c:=1) (by simp only[hF.e];rfl) u.k)<|dy (N.rest (b+r) h4 h5) λG0 p0 q0 A' V=>z9 N O (by lia) V hF.heap (by obtain S:=u.i;exact⟨(qE iu).trans u.j,mi,(qE iu).trans u.e,(qE iu).trans u.g,(qE iu).trans u.l,(qE<|by lia).trans u.c,(qE<|by lia).trans u.d,u.left.S (by lia)<|by lia,S⟩) I
theorem On(h:tM l):Rw<|mn l:=by obtain hc:=Cm l;refine⟨λq h=>((jA _).2 _<|lQ _ h).2.2,by rw[Cn h.u];exact h.d,by rw[Cn h.u];exact h.a,λr u=>?_,by rw[hc];exact g8 iN h.a,by rw[hc];exact YZ.mpr<|gY h.b⟩;obtain⟨h1,h2,_⟩:=(jA _).2 _<|lQ _ u;obtain⟨i,hi,rfl⟩:=oB u;exact⟨Tx.y5 (r7 hi)<|by rw[Cn h.u];exact h.e,λc hc=>h.d c<|h2 c hc,g8 h1 h.a⟩
def Y3:V->V|.f r=>.f<|r++"\n"|v=>v
theorem Y4(I:tM l)(h:σ.I "text"<|.f<|tx l):ev (T pp n).c (.u (.t .Add "row"<|.h "\n") "row" (.z (.m "text" "split"<|.d (.h "\n") .l) .none<|.B<|.k 1)<|.C Ye) σ=.c (tm<|mn l) σ:=by
 have F:=I.a;obtain hcl:l.count 10<=l.length:=iN;obtain c2:ev (T pp n).c (.m "text" "split"<|.d (.h "\n") .l) σ=.c (.h<|((ms l).map tx).map .f) σ:=qT (σ':={h:=σ.h,l:=[]}) (qA h) (zV bT<|by rfl) (qD Y7 Y7) (by rw[bT.a];show nz "str.split" [.f<|tx l,.f "\n"] _=_;rw[WY,Xf I.d<|g8 F iu];rfl);obtain hpn:ms l≠[]:=mK _ _;obtain hcut:qh (((ms l).map tx).map V.f) Y8 (Y6<|-1)=((mn l).map tx).map V.f:=by
  conv=>lhs;rw[<-fV hpn,eQ,eQ]
  exact WX
 obtain c4:=Hr (σ:=σ) (elt:=.t .Add "row"<|.h "\n") (x:="row") Y3 (vK c2 (show ev (T pp n).c .none σ=.c .none σ from Y7) uK<|show Ov.b (.h<|qh (((ms l).map tx).map V.f) Y8<|some<|-1)=_ by rw[hcut]) Y7 λv hv=>by refine am (YD.mp hv) λq L u=>?_;subst u;refine am (YD.mp L) λr J u=>?_;subst u;exact uM (qA (x:="row") Y7) Y7<|d9<|by rw[E4,(by decide+kernel:("\n":Yg).length=1),nU];have:=((jA l).2 r<|lQ _ J).1;lia (by rw[n5,n5,Cm,nU];lia);refine c4.trans<|i6 (λx=>Rs.c (V.h x) σ) ?_;rw[iX,iX,iX,iX];refine iS λr z=>?_;show V.f (tx r++"\n")=V.f (tx<|r++[10]);rw[E2,AN];rfl
structure xa(v:Yd V)(H:Hp):Prop where a:H.o 0=Y6 (.d lq)b:H.o 1=Y6 (.cell Y8)c:H.o 2=Y6 (.cell Y8)d:H.o 3=Y6 (.cell v)e:H.o 4=Y6 (.cell Y8)n:5<=H.n
theorem xa.I{v:Yd V}{H':Hp}(h:xa v H)(u:H.n<=H'.n)(hs:∀i,i<5->H'.o i=H.o i):xa v H':=⟨(hs 0 iu).trans h.a,(hs 1 iu).trans h.b,(hs 2 iu).trans h.c,(hs 3 iu).trans h.d,(hs 4 iu).trans h.e,g8 h.n u⟩
theorem xa.F{v:Yd V}(h:xa v H){j:Y9}{xs:Yb V}(hj:H.o j=Y6 (.a xs)):5<=j:=by
 refine YR.mp λq=>?_;rcases j with _|_|_|_|_|j;.cases h.a.symm.trans hj
 .cases h.b.symm.trans hj
 .cases h.c.symm.trans hj
 .cases h.d.symm.trans hj
 .cases h.e.symm.trans hj
 .exact g9 q<|Nat.not_lt.mpr<|bA 5 j
theorem Y5(hn:ns.length<=63):Gd (ex Dk (T pp 6)<|nh ns) λf σ'=>f=.b (.j Ye)/\σ'.o 0=Y6 (.d lq):=by
 obtain s1:(nh ns).I "script"<|.h<|ns.map .d:=by rfl
 obtain s2:(nh ns).e=uc:=by rfl
 obtain s3:(nh ns).a=Y6 (0,lq):=by rfl
 obtain s4:(nh ns).n=5:=by rfl
 obtain s5:(nh ns).o 0=Y6 (.d lq):=by rfl
 obtain s6:(nh ns).o 1=Y6 (.cell Y8):=by rfl
 obtain s7:(nh ns).o 2=Y6 (.cell Y8):=by rfl
 obtain s8:(nh ns).o 3=Y6 (.cell Y8):=by rfl
 obtain s9:(nh ns).o 4=Y6 (.cell Y8):=by rfl
 generalize nh ns=σ at s1 s2 s3 s4 s5 s6 s7 s8 s9⊢;have P:xa Y8 σ.h:=⟨s5,s6,s7,s8,s9,eJ s4.symm⟩;clear s4 s5 s6 s7 s8 s9;refine bp (Xj (pp:=pp) (n:=5) (H:=σ.h) hn) λl u N L F=>dy (XO N) λR c A m hK=>dy (hK.rest 0 hK.b<|.inl Y7) λG0 p0 q0 A' O=>?_;obtain⟨M0,t⟩:=O.a;have eR:R=G0++[p0,q0]:=bn O.rows λG' e=>by have:=Om hK.d t e;rw[ZZ.mpr λx q=>i7<|v8 x]at this;refine this.trans<|(iS λx q=>fA x).trans<|nW _
 have Y:=N.a;refine kb (zE (cx:=(T pp 6).c) (σ:=σ) (qQ (x:="_law_text")<|by refine ?_;rfl) (qD (qA s1) Y7) L) ?_;obtain t1:=@qH ({σ with h:=u.h}:St) "text"<|.f<|tx l;obtain s2:(({σ with h:=u.h}:St).F "text"<|.f<|tx l).e=uc:=s2;obtain s3:(({σ with h:=u.h}:St).F "text"<|.f<|tx l).a=Y6 (0,lq):=s3;obtain P:xa Y8 (({σ with h:=u.h}:St).F "text"<|.f<|tx l).h:=P.I F.1 λi hi=>F.2 i<|i9 hi P.n;generalize({σ with h:=u.h}:St).F "text" (.f<|tx l)=σ at s2 s3 t1 P⊢;clear s1 L F;refine kb (Y4 N t1) ?_;obtain t6:=@qH σ "rows"<|tm<|mn l;obtain t1:=@qG σ "rows" "text" (tm<|mn l) _ iu t1;obtain s2:(σ.F "rows"<|tm<|mn l).e=uc:=s2;obtain s3:(σ.F "rows"<|tm<|mn l).a=Y6 (0,lq):=s3;replace P:xa Y8 (σ.F "rows"<|tm<|mn l).h:=P;generalize σ.F "rows" (tm<|mn l)=σ at s2 s3 t1 t6 P⊢;refine cc (NG (pp:=pp) (n:=4) (H:=σ.h) (iw:=4) (tw:=8)) λu L F Z I=>kb (zE (cx:=(T pp 6).c) (σ:=σ) (qQ<|by refine ?_;rfl) (qD Y7<|qD Y7 Y7) L) ?_;obtain u0:=@qH ({σ with h:=u.h}:St) "whole"<|.g<|σ.h.n+1;obtain t1:(({σ with h:=u.h}:St).F "whole"<|.g<|σ.h.n+1).l.lookup ("text":Yg)=_:=ru t1;obtain t6:(({σ with h:=u.h}:St).F "whole"<|.g<|σ.h.n+1).l.lookup ("rows":Yg)=_:=ru t6;obtain s2:(({σ with h:=u.h}:St).F "whole"<|.g<|σ.h.n+1).e=uc:=s2;obtain s3:(({σ with h:=u.h}:St).F "whole"<|.g<|σ.h.n+1).a=Y6 (0,lq):=s3;obtain hd5:5<=σ.h.n:=P.n;obtain P:xa Y8 (({σ with h:=u.h}:St).F "whole"<|.g<|σ.h.n+1).h:=P.I (by show σ.n<=u.n;rw[Z];exact m7 _ 2) λi hi=>I i<|i9 hi P.n;have U:PO (({σ with h:=u.h}:St).F "whole"<|.g<|σ.h.n+1).h (σ.h.n+1) σ.h.n<|fs2 4 8:=F;have v2:(({σ with h:=u.h}:St).F "whole"<|.g<|σ.h.n+1).n=σ.h.n+2:=Z;generalize({σ with h:=u.h}:St).F "whole" (.g<|σ.h.n+1)=τ at s2 s3 t1 t6 u0 P U v2⊢;generalize σ.h.n=d at u0 U v2 hd5;clear L F Z I;rw[<-xC l]at t1;refine am (M2 (pp:=pp) (n:=5) (x:=tx<|kd l 0) (by rw[E4,xC];exact g8 Y iu) (.inr<|by rw[xC];exact List.getLast?_eq_some_iff.mp N.b) U<|wg (iw:=4) (tw:=8)) λσ2 b1 b2=>?_;refine zF (qT (qA u0) (U.L bT (wg.a.m iu)<|by rfl) (qD (qA t1) Y7) b1) ?_;rw[b2];obtain hdl:(kd l 0).length<=200:=by rw[xC];exact Y
 obtain⟨y1,y2⟩:=t.Y O.f<|g8 hdl iu;obtain hRd:sy (km τ.h d<|.dict<|kn "study_level" (.d 0)<|kn "code" (.f<|tx<|kd l 0)<|fs2 4 8) (d+1) d _ 4 8 (tx<|kd l 0) (G0++[p0,q0]) c:=⟨U.N,by show d+1<τ.n;lia,by show d<τ.n;lia,wg (iw:=4) (tw:=8).u<|tx<|kd l 0,wB (λc hc=>N.d c<|(qO l 0).mem hc)<|g8 hdl iu,y1,y2⟩;obtain⟨u,jD,L,F,Z,I,J,fW,V⟩:=O7 (pp:=pp) (n:=2) (s:=0) hRd O.b O.d;rw[<-O.m,(by have:=Oi (c:=c) (m:=m) O.e;rw[show oe l 0=0 from i6 Ys<|GZ l]at this;exact this:lw c m A' 0++vr A'.b=lw c m A 0++vr A.b)]at J;rw[<-eR]at V;refine kb (zE (cx:=(T pp 6).c) (qQ<|by refine ?_;rfl) (qD (qA u0)<|qD Y7 Y7) L) ?_;obtain hk:∀i,i<5->u.o i=τ.o i:=λi hi=>(F.a i (by show i<τ.n;lia)<|by omega).trans<|qE (by omega);obtain P:xa Y8 u.h:=P.I F.n hk;obtain v0:=@qH ({τ with h:=u.h}:St) "due"<|.g jD;obtain u0:(({τ with h:=u.h}:St).F "due"<|.g jD).I "whole"<|.g<|d+1:=ru u0;obtain t6:(({τ with h:=u.h}:St).F "due"<|.g jD).l.lookup ("rows":Yg)=_:=ru t6;obtain s2:(({τ with h:=u.h}:St).F "due"<|.g jD).e=uc:=s2;obtain s3:(({τ with h:=u.h}:St).F "due"<|.g jD).a=Y6 (0,lq):=s3;replace P:xa Y8 (({τ with h:=u.h}:St).F "due"<|.g jD).h:=P;obtain V:pg (({τ with h:=u.h}:St).F "due"<|.g jD).h (d+1) d 4 8 (tx<|kd l 0) R c A'.a fW:=V;replace J:(({τ with h:=u.h}:St).F "due"<|.g jD).o jD=_:=J;obtain I:jD<(({τ with h:=u.h}:St).F "due"<|.g jD).n:=I;generalize({τ with h:=u.h}:St).F "due" (.g jD)=σ at s2 s3 t6 u0 v0 P I J V⊢;clear L F Z hk b1 b2 hRd U v2;refine cc V.st λj hj X q S=>qF<|yB (qR (qA u0)<|V.a.I bT (f:="goodlines") iu hj.d.a Y7) (wV (c:=3) (by rw[s2];rfl) P.d) ?_;obtain j5:=P.F X;obtain jd5:=P.F J;replace P:xa (Y6<|.g j)<|km σ.h 3<|.cell<|some<|.g j:=⟨(qE iu).trans P.a,(qE iu).trans P.b,(qE iu).trans P.c,mi,(qE iu).trans P.e,P.n⟩;obtain X:(km σ.h 3<|.cell<|some<|.g j).o j=Y6 (.a<|kj R):=(qE<|by lia).trans X;obtain J:(km σ.h 3<|.cell<|some<|.g j).o jD=_:=(qE<|by lia).trans J;obtain S:j<(km σ.h 3<|.cell<|some<|.g j).n:=S;obtain I:jD<(km σ.h 3<|.cell<|some<|.g j).n:=I;generalize km σ.h 3 (.cell<|some<|.g j)=H at P X J S I⊢;refine cc (NG (pp:=pp) (n:=4) (H:=H) (iw:=4) (tw:=8)) λu c1 c2 c3 c4=>kb (zE (cx:=(T pp 6).c) (qQ<|by refine ?_;rfl) (qD Y7<|qD Y7 Y7) c1) ?_;obtain hP5:=P.n;obtain P:=P.I (by rw[c3];exact m7 _ 2) λi hi=>c4 i (by lia);refine qF<|yB (v:=.d ((0:Y9):Yh)) (a7:=({σ with h:=u.h}:St).F "left"<|.g<|H.n+1) Y7 (wV (c:=2) (by rw[s2];rfl) P.c)<|kb (v:=.none) (a7:={({σ with h:=u.h}:St).F "left"<|.g<|H.n+1with h:=km u.h 2<|.cell<|some<|.d ((0:Y9):Yh)}) Y7 ?_;refine kb (v:=.none) (a7:=({({σ with h:=u.h}:St).F "left"<|.g<|H.n+1with h:=km u.h 2<|.cell<|some<|.d ((0:Y9):Yh)}:St).F "found" .none) Y7<|XX (jG:=j) (jD:=jD) (kL:=H.n+1) (dL:=H.n) (b:=0) (pt:=Y8) (fs:=fs2 4 8) (R:=R) (D:=lw c m A 0++vr A.b) (On N)
  ⟨s2,s3,ru<|ru<|ru t6,ru<|ru<|ru v0,ru<|ru qH⟩
  ⟨(qE iu).trans P.a,(qE iu).trans P.b,mi,(qE iu).trans P.d,(qE iu).trans P.e,(qE<|by lia).trans<|(c4 j S).trans X,(qE<|by lia).trans<|(c4 jD I).trans J,c2.S (by lia)<|by lia,?_⟩ wg λb σ hA hz=>Y2 hK (On N) hA hz;have e:(km u.h 2<|.cell<|some<|.d ((0:Y9):Yh)).n=H.n+2:=c3;show _/\_/\_/\_/\_/\_/\j<(km u.h 2<|.cell<|some<|.d ((0:Y9):Yh)).n/\jD<(km u.h 2<|.cell<|some<|.d ((0:Y9):Yh)).n/\H.n+1<(km u.h 2<|.cell<|some<|.d ((0:Y9):Yh)).n/\H.n<(km u.h 2<|.cell<|some<|.d ((0:Y9):Yh)).n;rw[e];lia
theorem za:Ls:=λp ns u=>by refine bC λF=>?_;obtain⟨f,σ',e,rfl,h⟩:=Y5 (pp:=p) u;refine F ?_;exact⟨σ',e,h⟩
end
end Mine.Lake.L09
end
set_option maxRecDepth 100000 in
theorem PySem.Challenge.cw_dm0167_01_holds : PySem.Challenge.rw_dm0167_01.Holds :=
 Mine.Lake.L09.AM Mine.Lake.L09.za
