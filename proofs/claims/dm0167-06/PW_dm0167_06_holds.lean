import PyProof.Rows.All
import OpenK.KLine
import KE.KLam
import PyProof.TupleIter
import PyProof.IsiH_list
import PyProof.MeetsSeq2
import PyProof.RulesDelMore
import PyProof.WalksMore
import PyProof.P3Eq
import PySem.Challenge.RW_dm0167_06
set_option Elab.async false
set_option linter.all false
set_option bootstrap.genMatcherCode false
set_option genSizeOf false
set_option backward.match.sparseCases false
set_option backward.eqns.nonrecursive false
set_option compiler.extract_closed false
set_option tactic.hygienic false
set_option genInjectivity false
set_option genCtorIdx false
set_option genSizeOfSpec false
set_option maxRecDepth 100000
set_option autoImplicit true
local macro_rules
  | `(tactic| subst $h:ident) => `(tactic| (replace $h := Option.some.inj $h; subst $h))
set_option maxHeartbeats 8000000
local macro_rules
  | `(tactic| lia) => `(tactic| lia -abstractProof)
theorem Mine.Lake.zN1{a:α}{p:Prop}(h :none=some a):p := nomatch h
theorem Mine.Lake.bC(h :¬¬p):p := Classical.byContradiction h
theorem Mine.Lake.zT1{p :Prop}(h :true=false):p := nomatch h
theorem Mine.Lake.zF1{p :Prop}(h :false=true):p := nomatch h
theorem Mine.Lake.zX1{c:Prop}[Decidable c]{t:Sort _}{a b:t}(h:¬c:=by decide):(if c then a else b)=b:=if_neg h
noncomputable section
open PySem.Challenge (pw_dm0167_06)
open PySem.W.Fast (te10110043849684766642 te10274390034422433532 te10295753902157049106 te1066825118222455980 te11892475500146522536 te12563942051412417395 te14082659384304107361 te14289696077712309145 te1435165496053646825 te14364793385576792824 te14374325043358763698 te15667345088766844465 te4187177175401517315 te5923862056798008813 te8920871248978507458 tw10110043849684766642 tw10274390034422433532 tw10295753902157049106 tw1066825118222455980 tw11892475500146522536 tw12563942051412417395 tw14082659384304107361 tw14289696077712309145 tw1435165496053646825 tw14364793385576792824 tw14374325043358763698 tw15667345088766844465)
noncomputable def Mine.Lake.pj:List Nat:=[14,4,0,3,4294967295,6,1,24,11,0,4294967295,13,6,16,32,16,9,0,1,7,13,16,119,16,104,16,105,16,108,16,101,15,173,11,16,101,16,108,16,115,16,101,15,162,9,16,100,16,101,16,102,15,153,15,16,114,16,101,16,116,16,117,16,114,16,110,15,138,15,16,97,16,115,16,115,16,101,16,114,16,116,15,123,13,16,98,16,114,16,101,16,97,16,107,15,110,13,16,99,16,108,16,97,16,115,16,115,15,97,19,16,99,16,111,16,110,16,116,16,105,16,110,16,117,16,101,15,78,11,16,101,16,108,16,105,16,102,15,67,9,16,116,16,114,16,121,15,58,15,16,101,16,120,16,99,16,101,16,112,16,116,15,43,13,16,114,16,97,16,105,16,115,16,101,15,30,15,16,105,16,109,16,112,16,111,16,114,16,116,15,15,13,16,121,16,105,16,101,16,108,16,100,15,2,0,6,10,1]
noncomputable def Mine.Lake.pk:List Nat:=[14,4,0,1,4294967295,24,11,0,4294967295,13,6,16,32,16,9,0,1,23,16,0,1,16,35,13,4,8,13,0,24,5,0,4294967295,2,1,18,16,10,1]
noncomputable def Mine.Lake.pn:List Nat:=[14,9,4,1,4294967295,16,34,16,39,0,7,72,16,34,16,34,16,34,24,12,0,4294967295,13,7,21,16,34,16,92,0,1,23,37,0,4294967295,7,6,16,92,3,15,15,13,16,34,5,7,0,16,34,16,34,1,15,2,0,24,12,0,4294967295,13,7,21,16,34,16,92,0,1,18,23,9,0,1,16,34,16,34,16,34,18,15,186,56,16,34,24,17,0,4294967295,13,12,21,9,1024,4,268435456,0,0,0,0,0,0,1,23,24,0,4294967295,16,92,3,24,17,0,4294967295,13,12,21,9,1024,4,268435456,0,0,0,0,0,0,1,18,24,6,0,1,16,34,1,15,130,72,16,39,16,39,16,39,24,12,0,4294967295,13,7,21,16,39,16,92,0,1,23,37,0,4294967295,7,6,16,92,3,15,15,13,16,39,5,7,0,16,39,16,39,1,15,2,0,24,12,0,4294967295,13,7,21,16,39,16,92,0,1,18,23,9,0,1,16,39,16,39,16,39,18,15,58,56,16,39,24,17,0,4294967295,13,12,21,9,1024,128,268435456,0,0,0,0,0,0,1,23,24,0,4294967295,16,92,3,24,17,0,4294967295,13,12,21,9,1024,128,268435456,0,0,0,0,0,0,1,18,24,6,0,1,16,39,1,15,2,0,1]
noncomputable def Mine.Lake.pq:List Nat:=[14,4,0,1,4294967295,24,11,0,4294967295,13,6,16,32,16,9,0,1,13,9,21,8,12,16,35,16,92,0,1]
noncomputable def Mine.Lake.pr:List Nat:=[14,4,0,4,4294967295,24,9,0,4294967295,13,4,8,12,0,1,7,15,16,114,16,101,16,116,16,117,16,114,16,110,15,58,13,16,98,16,114,16,101,16,97,16,107,15,45,19,16,99,16,111,16,110,16,116,16,105,16,110,16,117,16,101,15,26,13,16,114,16,97,16,105,16,115,16,101,15,13,11,16,112,16,97,16,115,16,115,15,2,0,6,10,1]
noncomputable def Mine.Lake.pu:List Nat:=[14,4,0,1,4294967295,24,17,1,4294967295,13,12,21,9,0,908,939524096,671088640,0,0,0,0,0,1,1]
namespace MineTop
open PySem PySem.W PyProof.Rows
theorem zPt(h:PySem.Challenge.rw_dm0167_06.row.Holds):PySem.Challenge.rw_dm0167_06.Holds :=
 holds_law (by
  unfold OpenLaw.wellSaid OpenRow.wellSaid OpenRow.partSaid looksOpen
  repeat' with_reducible refine look_both ?_ ?_
  all_goals kernel_rfl) λ_=>h
noncomputable def nth:List Stmt->Nat->Stmt
 | [],_=>.Return none ⟨0,0,0,0⟩
 |a::_,0=>a
 |_::r,n+1=>nth r n
noncomputable def cls:Stmt->List Stmt
 | .ClassDef _ _ _ b ..=>b
 |_=>[]
noncomputable def qVd:Stmt->FuncData
 | .FunctionDef n ps b _ _ _ sc _ _ _=>⟨n,n,ps,.stmts b,sc,0,[],.none,.none,.none,.none,none,.none,.none,0⟩
 |_=>default
noncomputable def odds:List Obj->List Obj
 | []=>[]
 | [a]=>[a]
 |a::_::r=>a::odds r
def bt:Nat->List Obj->BT
 |0,_=>.nil
 |_+1,[]=>.nil
 |n+1,o::r=>.node o (bt n (odds r)) (bt n (odds r.tail))
noncomputable def Lz(s:Str):String:=if h:S.low s.cps.toList then S.litE (s.cps.toList.map UInt8.ofNat) s.cps.toList h rfl else ""
noncomputable abbrev Iz(n:Nat):Value:=.int (.ofNat n) 0
noncomputable abbrev Jz(n m:Nat):Value:=.int (.ofNat n) m
abbrev Fz(x:Stmt)(a b:Str):Data:=.func { qVd x with name:=a,qualname:=b,globals:=0,closure:=[],defaults:=.none,kwdefaults:=.none,doc:=.none,pyModule:=.none,annotations:=none,code:=.none,closureTuple:=.none,builtins:=0 }
abbrev Gz(x:Stmt)(a b:Str)(m c:Value):Data:=.func { qVd x with name:=a,qualname:=b,globals:=3,closure:=[],defaults:=.none,kwdefaults:=.none,doc:=.none,pyModule:=m,annotations:=none,code:=c,closureTuple:=.none,builtins:=0 }
noncomputable abbrev kh(P:Params)(x:Str):Int:=PySem.PyData.keyHash P x
abbrev zX0(P :Params)(x :Str)(n :Nat)(v :Value):DictEntry := ⟨kh P x,.str x n,v⟩
noncomputable def TB:List Stmt:=pw_dm0167_06.main.body
noncomputable def s0:Str:="__name__"
noncomputable def s2:Str:="__doc__"
noncomputable def s3:Str:="__package__"
noncomputable def s4:Str:="__loader__"
noncomputable def s5:Str:="__spec__"
noncomputable def s16:Str:="compile"
noncomputable def qUb:Str:="copyright"
noncomputable def qUa:Str:="__main__"
noncomputable def qBi:Str:="_sre"
noncomputable def qTz:Str:="__annotations__"
noncomputable def qTy:Str:="__builtins__"
noncomputable def qTx:Str:="__file__"
noncomputable def qY:Str:="/claim/cut.py"
noncomputable def qTw:Str:="__cached__"
noncomputable def zGd:Str:="<module>"
noncomputable def zGc:Str:=⟨⟨[]⟩⟩
noncomputable def zGb:Str:="template"
noncomputable def zGa:Str:="getcodesize"
noncomputable def zFz:Str:="ascii_iscased"
noncomputable def zFy:Str:="unicode_iscased"
noncomputable def zFx:Str:="ascii_tolower"
noncomputable def zFw:Str:="unicode_tolower"
noncomputable def zFv:Str:="MAGIC"
noncomputable def zFu:Str:="CODESIZE"
noncomputable def zFt:Str:="MAXREPEAT"
noncomputable def zFs:Str:="MAXGROUPS"
noncomputable def qBh:Str:="__module__"
noncomputable def qBg:Str:="__firstlineno__"
noncomputable def qBf:Str:="__static_attributes__"
noncomputable def qBe:Str:="__dict__"
noncomputable def qBd:Str:="__weakref__"
noncomputable def qGx:Str:="__init__"
noncomputable def kU:Str:="cpy313.idlelib.pyparse"
noncomputable def qEa:Str:="_wall"
noncomputable def qZm:Str:="_twin_re_1"
noncomputable def qZl:Str:="_twin_re_2"
noncomputable def qZk:Str:="_twin_re_3"
noncomputable def qZj:Str:="_twin_re_4"
noncomputable def qZi:Str:="_twin_re_5"
noncomputable def qZh:Str:="_twin_re_6"
noncomputable def qZg:Str:="_twin_re_7"
noncomputable def qTv:Str:="C_NONE"
noncomputable def qTu:Str:="C_BACKSLASH"
noncomputable def qTt:Str:="C_STRING_FIRST_LINE"
noncomputable def qTs:Str:="C_STRING_NEXT_LINES"
noncomputable def qTr:Str:="C_BRACKET"
noncomputable def qZf:Str:="_synchre"
noncomputable def qZe:Str:="_junkre"
noncomputable def qZd:Str:="_match_stringre"
noncomputable def qZc:Str:="_itemre"
noncomputable def qZb:Str:="_closere"
noncomputable def qZa:Str:="_chew_ordinaryre"
noncomputable def qCk:Str:="ParseMap"
noncomputable def zFr:Str:="__qualname__"
noncomputable def qNe:Str:="__missing__"
noncomputable def yH:Str:="self"
noncomputable def qYz:Str:="trans"
noncomputable def qBc:Str:="<genexpr>"
noncomputable def qTq:Str:=".0"
noncomputable def qTp:Str:="c"
noncomputable def qCj:Str:="Parser"
noncomputable def qNd:Str:="set_code"
noncomputable def qNc:Str:="find_good_parse_start"
noncomputable def qNb:Str:="set_lo"
noncomputable def qNa:Str:="_study1"
noncomputable def qMz:Str:="get_continuation_type"
noncomputable def qMy:Str:="_study2"
noncomputable def qMx:Str:="compute_bracket_indent"
noncomputable def qMw:Str:="get_num_lines_in_stmt"
noncomputable def qMv:Str:="compute_backslash_indent"
noncomputable def qMu:Str:="get_base_indent_string"
noncomputable def qMt:Str:="is_block_opener"
noncomputable def qMs:Str:="is_block_closer"
noncomputable def qMr:Str:="get_last_stmt_bracketing"
noncomputable def qMq:Str:="code"
noncomputable def qTo:Str:="i"
noncomputable def zFq:Str:="law_dm0167_06"
noncomputable def qIx:Str:="_law_text"
noncomputable def qIw:Str:="_law_all"
noncomputable def qIv:Str:="law"
noncomputable def t0:String:=SL.s14018661285674007319x4
noncomputable def t61:String:=SL.s9222952809800978799x4
noncomputable def t63:String:=SL.s2742458400755230247x6
noncomputable def t64:String:=SL.s1438033511350832697x5
noncomputable def t70:String:=SL.s4290257624100764138x5
noncomputable def t71:String:=SL.s2766695959194262286x5
noncomputable def t72:String:=SL.s17162191345867700912x4
noncomputable def t82:String:=SL.s9001593270443806431x14
noncomputable def t89:String:=SL.s10852414792293593619x7
noncomputable def t93:String:=SL.s5991306692159431302x13
noncomputable def zLn:String:=SL.s7097527257260152453x26
noncomputable def zLm:String:=SL.s6658869562736209489x6
noncomputable def xU:String:=SL.s5856160107412720595x4
noncomputable def qMd:String:=SL.s658472552662922059x5
noncomputable def qIl:String:=SL.s14755015743595814543x17
noncomputable def zEs:String:=SL.s6511155373996960695x17
noncomputable def zEr:String:=SL.s12411053484034534018x21
noncomputable def zEq:String:=SL.s10220274742760427390x26
noncomputable def jE:String:=SL.s7174869446012820540x8
noncomputable def qMc:String:=SL.s12171344214640291687x10
noncomputable def qDy:String:=SL.s15992201931430999065x14
noncomputable def qCe:String:=SL.s11030030927630378310x26
noncomputable def qXl:String:=SL.s67735186229215510x16
noncomputable def zLl:String:=SL.s7929333955151719606x9
def TE(n k:Nat)(t:List DictEntry):Nat->List DictEntry
 |0=>t
 |m+1=>⟨(.ofNat n),(.int (.ofNat n) k),(Jz 120 1066)⟩::TE (n+1) (k+2) t m
noncomputable def TJ:Nat->List Nat->List Value
 |_,[]=>[]
 |k,a::l=>.int (.ofNat a) k::TJ (k+1) l
noncomputable def TI:List Nat->List Value
 | []=>[]
 |a::l=>.int (.ofNat a) 0::TI l
def i3:Value:=(Iz 3)
def i1:Value:=(Iz 1)
def i0:Value:=(Iz 0)
def i13:Value:=(Iz 13)
def kA:Value:=(Iz 276)
def i2:Value:=(Iz 2)
def i4:Value:=(Iz 4)
def e0:DictEntry:=⟨(.ofNat 40),(Jz 40 1147),(Jz 40 1340)⟩
def e1:DictEntry:=⟨(.ofNat 91),(Jz 91 1249),(Jz 40 1352)⟩
def e2:DictEntry:=⟨(.ofNat 123),(Jz 123 1313),(Jz 40 1346)⟩
def zBu(P:Params)(f:String->Value):Nat->List (Str×String)->List DictEntry
 |_,[]=>[]
 |n,(x,y)::r=>zX0 P x n (f y)::zBu P f (n+1) r
def o0(P:Params):Obj:=⟨(.type t0),none,(.dict  (List.toArray ([(zX0 P s0 1 (.str "builtins" 160))]++(zBu P .builtin 2 [(s2,Lz "builtins.__doc__:str#opaque"),(s3,Lz "builtins.__package__:str#opaque"),(s4,Lz "builtins.__loader__:shared#opaque"),(s5,SL.s11665532747177232413x24),("__build_class__",SL.s15183661809925369436x15),("__import__",SL.s13915890719876406383x10),("abs",SL.s13459172003223722735x3),("all",SL.s10557405761357834076x3),("any",SL.s4233737765568776869x3),("ascii",SL.s2508922471967985374x5),("bin",SL.s15574269061696679450x3),("breakpoint",SL.s6016482663378992977x10),("callable",SL.s5596568736180474577x8),("chr",SL.s2839554839881490554x3),(s16,SL.s725004073602090463x7),("delattr",SL.s9436932552931045734x7),("dir",SL.s2754603736356183583x3),("divmod",SL.s15185746759980889043x6),("eval",SL.s8192189862530294059x4),("exec",SL.s7038307821325472102x4),("format",SL.s5662562618415449548x6),("getattr",SL.s15281542589158584767x7),("globals",SL.s17651547275483570877x7),("hasattr",SL.s4036449017235975746x7),("hash",SL.s8879979712987360175x4),("hex",SL.s1801250619170735830x3),("id",SL.s17659931425627118568x2),("input",SL.s6063217899685152688x5),("isinstance",SL.s8008927332132565319x10),("issubclass",SL.s3544116645089599534x10),("iter",SL.s13761710972054866084x4)]++(zBu P .builtin 33 [("aiter",SL.s12896375587409280029x5),("len",SL.s13014049009108672802x3),("locals",SL.s13935586738268321596x6),("max",SL.s8200498257699607233x3),("min",SL.s14114244577727609259x3),("next",SL.s1499430450269397089x4),("anext",SL.s8755793994789770505x5),("oct",SL.s15725212667919936108x3),("ord",SL.s15791221867095933363x3),("pow",SL.s81309575031448614x3),("print",SL.s8069831620301644142x5),("repr",SL.s10061844253413749634x4),("round",SL.s9496514870978017513x5),("setattr",SL.s8899691144933366716x7),("sorted",SL.s15201008993051130160x6),("sum",SL.s741896355592496720x3),("vars",SL.s17925004256654032244x4)]++([(zX0 P "None" 50 .none),(zX0 P "Ellipsis" 51 .ellipsis),(zX0 P "NotImplemented" 52 .notImplemented),(zX0 P "False" 53 (.bool false)),(zX0 P "True" 54 (.bool true))]++(zBu P .type 55 [("bool",SL.s11695548795398191787x4),("memoryview",SL.s4156966113859768872x10),("bytearray",SL.s9501651726347032510x9),("bytes",SL.s15722918466584999320x5),("classmethod",SL.s591115383303110208x11),("complex",SL.s15721156781594690315x7),("dict",t0),("enumerate",SL.s14340494229221121180x9),("filter",SL.s13429844117177748173x6),("float",SL.s16463266125957815391x5),("frozenset",SL.s4922535414793169389x9),("property",SL.s8101838861749082086x8),("int",SL.s7066276694103001551x3),("list",t61),("map",SL.s462964344163437139x3),("object",t63),("range",t64),("reversed",SL.s14365286008749172514x8),("set",SL.s3642769012341782148x3),("slice",SL.s4674234679698826739x5),("staticmethod",SL.s16656946322747308186x12),("str",SL.s10796804682411823810x3),("super",t70),("tuple",t71),("type",t72),("zip",SL.s14339709457334898076x3)]++([(zX0 P "__debug__" 81 (.bool true))]++(zBu P .type 82 [("BaseException",SL.s4278001404047624695x13),("BaseExceptionGroup",SL.s6585700554429387442x18),("Exception",SL.s5946037652744460706x9),("GeneratorExit",SL.s7410770068591931388x13),("KeyboardInterrupt",SL.s11817881795495490833x17),("SystemExit",SL.s15679963881808890155x10),("ArithmeticError",SL.s3871700062485845797x15),("AssertionError",SL.s7689518266570723881x14),("AttributeError",t82),("BufferError",SL.s6882542574934516792x11),("EOFError",SL.s14403400214490484960x8),("ImportError",SL.s14457978657717015782x11),("LookupError",SL.s1753610191782819921x11),("MemoryError",SL.s14119380538032626715x11),("NameError",SL.s11437920000406562045x9),("OSError",t89),("ReferenceError",SL.s14816307405966870543x14),("RuntimeError",SL.s8682627914449686677x12),("StopAsyncIteration",SL.s4428170145600203450x18),("StopIteration",t93),("SyntaxError",SL.s16067994140765818257x11),("SystemError",SL.s2327743974964600596x11),("TypeError",SL.s2804747833354056582x9),("ValueError",SL.s6070975301684473832x10),("Warning",SL.s14270485950484850486x7),("FloatingPointError",SL.s12041534306414923332x18),("OverflowError",SL.s2531307568338490285x13),("ZeroDivisionError",SL.s631175304937289666x17),("BytesWarning",SL.s5144983644357021410x12),("DeprecationWarning",SL.s18039099521571816885x18),("EncodingWarning",SL.s6011586214260557989x15)]++(zBu P .type 113 [("FutureWarning",SL.s5430567037509283100x13),("ImportWarning",SL.s8117915138073963741x13),("PendingDeprecationWarning",SL.s3423317712779056401x25),("ResourceWarning",SL.s2007317383269046180x15),("RuntimeWarning",SL.s17481586968713580700x14),("SyntaxWarning",SL.s2450899226349176912x13),("UnicodeWarning",SL.s16626165730633575011x14),("UserWarning",SL.s14288496050688921416x11),("BlockingIOError",SL.s5735081916595925998x15),("ChildProcessError",SL.s3865607918536308442x17),("ConnectionError",SL.s13337502604062700212x15),("FileExistsError",SL.s13114017843053701147x15),("FileNotFoundError",SL.s17467278006356818441x17),("InterruptedError",SL.s17722149559621369488x16),("IsADirectoryError",SL.s7855274175708717672x17),("NotADirectoryError",SL.s13351283678309829046x18),("PermissionError",SL.s6668348653404991179x15),("ProcessLookupError",SL.s12913350958174193794x18),("TimeoutError",SL.s16115879512475548326x12),("IndentationError",SL.s15920661018069861047x16),("_IncompleteInputError",SL.s10779130036587390575x21),("IndexError",SL.s7801419657504700863x10),("KeyError",SL.s1688129525768580628x8),("ModuleNotFoundError",SL.s1031832959479892071x19),("NotImplementedError",SL.s8991790508128307865x19),("PythonFinalizationError",SL.s14539662485746970245x23),("RecursionError",SL.s11643622729373238714x14),("UnboundLocalError",SL.s3386828779285465597x17),("UnicodeError",SL.s13042696260734638735x12),("BrokenPipeError",SL.s18239426817015966623x15),("ConnectionAbortedError",SL.s1270395311379034370x22)]++(zBu P .type 144 [("ConnectionRefusedError",SL.s10696252587037064777x22),("ConnectionResetError",SL.s7852717498200857586x20),("TabError",SL.s6377248116197321094x8),("UnicodeDecodeError",SL.s3834378056692298002x18),("UnicodeEncodeError",SL.s17586630440231065808x18),("UnicodeTranslateError",SL.s15234114252648025395x21),("ExceptionGroup",SL.s8496462677383758984x14),("EnvironmentError",t89),("IOError",t89)]++(zBu P .builtin 153 [("open",SL.s16789243406116112673x4),("quit",SL.s14400166428656793546x20),("exit",SL.s5857708277339239366x20),(qUb,Lz "builtins.copyright#opaque"),("credits",Lz "builtins.credits#opaque"),("license",Lz "builtins.license#opaque"),("help",SL.s7804999707787243718x20)]))))))))))) 159),#[]⟩
def o1(P:Params):Obj:=⟨(.type t0),none,(.dict #[(zX0 P "builtins" 162 (.ref 4)),(zX0 P qUa 163 (.ref 5)),(zX0 P qBi 244 (.ref 12))] 3),#[]⟩
def o2(P:Params):Obj:=⟨.none,none,(.dict #[(zX0 P "\x69mport.loaded._sre" 183 (.bool true)),(zX0 P "class._frozen_importlib.BuiltinImporter" 185 (.ref 14)),(zX0 P "watched.\x69mport" 206 (.ref 18)),(zX0 P "class._frozen_importlib.ModuleSpec" 216 (.ref 22)),(zX0 P "sys.modules.booked-epoch" 245 i3),(zX0 P "\x69mport.later-laid._sre" 270 (.bool true)),(zX0 P "watched.library" 272 (.ref 27)),(zX0 P "watched.library-objects" 0 (.str ⟨⟨[12]⟩⟩ 0)),(zX0 P "watched.library-deep._sre" 273 (.str ⟨⟨[4,0,0,11,4,0,0,11,4,0,0,3,4,0,0,11,8,4,100,105,99,116,2]⟩⟩ 0))] 9),#[]⟩
def o3(P:Params):Obj:=⟨(.type t0),none,(.dict #[(zX0 P s0 165 (.str qUa 164)),(zX0 P s2 166 .none),(zX0 P s3 167 .none),(zX0 P s4 168 (.builtin zLn)),(zX0 P s5 169 .none),(zX0 P qTz 170 (.ref 6)),(zX0 P qTy 171 (.ref 4)),(zX0 P qTx 173 (.str qY 172)),(zX0 P qTw 174 .none),(zX0 P qBi 275 (.ref 12))] 10),#[]⟩
def o4:Obj:=⟨(.type zLm),(some 0),.plain,#[]⟩
def o5:Obj:=⟨(.type zLm),(some 3),.plain,#[]⟩
def o6:Obj:=⟨(.type t0),none,(.dict #[] 0),#[]⟩
def o7:Obj:=⟨(.type t71),none,(.seq #[] 0),#[]⟩
noncomputable def o8:Obj:=⟨.none,none,(.fields #[]),#[]⟩
def o9:Obj:=⟨(.type xU),none,(.fields #[(.str zGd 176),(.str zGd 177),(.str qY 178),i1,i0,i0,i0,i0,(.ref 7),(.bool false),(Iz 175),(.ref 8),.none,.none,.none,.none,(Iz 179),i1,(.str qY 180)]),#[]⟩
def o10:Obj:=⟨(.type qMd),none,.plain,#[(some (.ref 9)),(some (.ref 3)),(some (.ref 3)),none,(some (.str qUa 164)),none,(some (.ref 0))]⟩
def o11(P:Params):Obj:=⟨(.type t0),none,(.dict #[(zX0 P s0 247 (.str qBi 246)),(zX0 P s2 248 .none),(zX0 P s3 250 (.str zGc 249)),(zX0 P s4 251 (.builtin (Lz "off-the-table:_sre.__loader__:shared#opaque"))),(zX0 P s5 252 (.builtin (Lz "off-the-table:_sre.__spec__:shared#opaque"))),(zX0 P s16 253 (.builtin (SL.s492968859115322481x12))),(zX0 P zGb 254 (.builtin (Lz "off-the-table:_sre.template:shared#opaque"))),(zX0 P zGa 255 (.builtin (Lz "off-the-table:_sre.getcodesize:shared#opaque"))),(zX0 P zFz 256 (.builtin (Lz "off-the-table:_sre.ascii_iscased:shared#opaque"))),(zX0 P zFy 257 (.builtin (Lz "off-the-table:_sre.unicode_iscased:shared#opaque"))),(zX0 P zFx 258 (.builtin (Lz "off-the-table:_sre.ascii_tolower:shared#opaque"))),(zX0 P zFw 259 (.builtin (Lz "off-the-table:_sre.unicode_tolower:shared#opaque"))),(zX0 P zFv 261 (Jz 20230612 260)),(zX0 P zFu 263 (Jz 4 262)),(zX0 P zFt 265 (Jz 4294967295 264)),(zX0 P zFs 267 (Jz 1073741823 266)),(zX0 P qUb 269 (.str " SRE 2.2.2 Copyright (c) 1997-2002 by Secret Labs AB " 268))] 17),#[]⟩
def o12:Obj:=⟨(.type zLm),(some 11),.plain,#[]⟩
def o13(P:Params):Obj:=⟨(.type t0),none,(.dict #[(zX0 P qBh 189 (.str "_frozen_importlib" 186)),(zX0 P qBg 190 (Jz 971 187)),(zX0 P s2 191 (.builtin (Lz "_frozen_importlib.BuiltinImporter.__doc__:str#opaque"))),(zX0 P "_ORIGIN" 192 (.str "built-in" 188)),(zX0 P "find_spec" 193 (.builtin (Lz "_frozen_importlib.BuiltinImporter.find_spec#opaque"))),(zX0 P "create_module" 194 (.builtin (Lz "_frozen_importlib.BuiltinImporter.create_module#opaque"))),(zX0 P "exec_module" 195 (.builtin (Lz "_frozen_importlib.BuiltinImporter.exec_module#opaque"))),(zX0 P "get_code" 196 (.builtin (Lz "_frozen_importlib.BuiltinImporter.get_code#opaque"))),(zX0 P "get_source" 197 (.builtin (Lz "_frozen_importlib.BuiltinImporter.get_source#opaque"))),(zX0 P "is_package" 198 (.builtin (Lz "_frozen_importlib.BuiltinImporter.is_package#opaque"))),(zX0 P "load_module" 199 (.builtin (Lz "_frozen_importlib.BuiltinImporter.load_module#opaque"))),(zX0 P qBf 200 (.ref 15)),(zX0 P qBe 202 (.ref 16)),(zX0 P qBd 204 (.ref 17))] 14),#[]⟩
def o14:Obj:=⟨(.type t72),none,(.cls ⟨"BuiltinImporter",[(.type t63)],[(.ref 14),(.type t63)],13,"BuiltinImporter",true,[],[],false,none,false⟩),#[]⟩
def o15:Obj:=⟨(.type qIl),none,(.fields #[(.str qBe 201),(.ref 14),(.builtin zEs),(.builtin zEr)]),#[]⟩
def o16:Obj:=⟨(.type qIl),none,(.fields #[(.str qBd 203),(.ref 14),(.builtin zEq),.none]),#[]⟩
def o17:Obj:=⟨.none,none,(.seq #[i13,(.str "\x06½\n__module__\x06º\x11_frozen_importlib\x06¾\x0f__firstlineno__\x04»\x00ϋ\x06¿\x07__doc__\t4_frozen_importlib.BuiltinImporter.__doc__:str#opaque\x06À\x07_ORIGIN\x06¼\x08built-in\x06Á\tfind_spec\t2_frozen_importlib.BuiltinImporter.find_spec#opaque\x06Â\x0dcreate_module\t6_frozen_importlib.BuiltinImporter.create_module#opaque\x06Ã\x0bexec_module\t4_frozen_importlib.BuiltinImporter.exec_module#opaque\x06Ä\x08get_code\t1_frozen_importlib.BuiltinImporter.get_code#opaque\x06Å\nget_source\t3_frozen_importlib.BuiltinImporter.get_source#opaque\x06Æ\nis_package\t3_frozen_importlib.BuiltinImporter.is_package#opaque\x06Ç\x0bload_module\t4_frozen_importlib.BuiltinImporter.load_module#opaque\x06È\x15__static_attributes__\x04\x00\x00\x0f\x06Ê\x08__dict__\x04\x00\x00\x10\x06Ì\x0b__weakref__\x04\x00\x00\x11" 0),(.bool true),(.bool true),(.str zGc 205),(Iz 21),(.str "\x06ã\n__module__\x06Ù\x11_frozen_importlib\x06ä\x0f__firstlineno__\x04Ú\x00Ȳ\x06å\x07__doc__\t/_frozen_importlib.ModuleSpec.__doc__:str#opaque\x06æ\x08__init__\t,_frozen_importlib.ModuleSpec.__init__#opaque\x06ç\x08__repr__\t,_frozen_importlib.ModuleSpec.__repr__#opaque\x06è\x06__eq__\t*_frozen_importlib.ModuleSpec.__eq__#opaque\x06é\x06cached\t*_frozen_importlib.ModuleSpec.cached#opaque\x06ê\x06parent\t*_frozen_importlib.ModuleSpec.parent#opaque\x06ë\x0chas_location\t0_frozen_importlib.ModuleSpec.has_location#opaque\x06ì\x15__static_attributes__\x04\x00\x00\x17\x06î\x08__dict__\x04\x00\x00\x18\x06ð\x0b__weakref__\x04\x00\x00\x19\x06ñ\x08__hash__\x00" 0),(.bool true),(.bool true),(.str zGc 242)] 1),#[]⟩
def o18:Obj:=⟨(.type t61),none,(.seq #[] 0),#[]⟩
def o19(P:Params):Obj:=⟨(.type t0),none,(.dict #[(zX0 P "name" 208 (.str qBi 207)),(zX0 P "loader" 209 (.ref 14)),(zX0 P "origin" 210 (.str "built-in" 184)),(zX0 P "loader_state" 211 .none),(zX0 P "submodule_search_locations" 212 .none),(zX0 P "_uninitialized_submodules" 213 (.ref 19)),(zX0 P "_set_fileattr" 214 (.bool false)),(zX0 P "_cached" 215 .none),(zX0 P "_initializing" 243 (.bool false))] 9),#[]⟩
def o20(P:Params):Obj:=⟨(.type t0),none,(.dict #[(zX0 P qBh 227 (.str "_frozen_importlib" 217)),(zX0 P qBg 228 (Jz 562 218)),(zX0 P s2 229 (.builtin (Lz "_frozen_importlib.ModuleSpec.__doc__:str#opaque"))),(zX0 P qGx 230 (.builtin (Lz "_frozen_importlib.ModuleSpec.__init__#opaque"))),(zX0 P "__repr__" 231 (.builtin (Lz "_frozen_importlib.ModuleSpec.__repr__#opaque"))),(zX0 P "__eq__" 232 (.builtin (Lz "_frozen_importlib.ModuleSpec.__eq__#opaque"))),(zX0 P "cached" 233 (.builtin (Lz "_frozen_importlib.ModuleSpec.cached#opaque"))),(zX0 P "parent" 234 (.builtin (Lz "_frozen_importlib.ModuleSpec.parent#opaque"))),(zX0 P "has_location" 235 (.builtin (Lz "_frozen_importlib.ModuleSpec.has_location#opaque"))),(zX0 P qBf 236 (.ref 23)),(zX0 P qBe 238 (.ref 24)),(zX0 P qBd 240 (.ref 25)),(zX0 P "__hash__" 241 .none)] 13),#[]⟩
def o21:Obj:=⟨(.type t72),none,(.cls ⟨"ModuleSpec",[(.type t63)],[(.ref 22),(.type t63)],21,"ModuleSpec",true,[],[],false,none,false⟩),#[]⟩
def o22:Obj:=⟨(.type t71),none,(.seq #[(.str "_cached" 219),(.str "_set_fileattr" 220),(.str "_uninitialized_submodules" 221),(.str "loader" 222),(.str "loader_state" 223),(.str "name" 224),(.str "origin" 225),(.str "submodule_search_locations" 226)] 0),#[]⟩
def o23:Obj:=⟨(.type qIl),none,(.fields #[(.str qBe 237),(.ref 22),(.builtin zEs),(.builtin zEr)]),#[]⟩
def o24:Obj:=⟨(.type qIl),none,(.fields #[(.str qBd 239),(.ref 22),(.builtin zEq),.none]),#[]⟩
noncomputable def o25:Obj:=⟨(.ref 22),(some 20),.plain,#[]⟩
def o26:Obj:=⟨.none,none,(.seq #[(Iz 11),(.str ⟨⟨[6,247,8,95,95,110,97,109,101,95,95,6,246,4,95,115,114,101,6,248,7,95,95,100,111,99,95,95,0,6,250,11,95,95,112,97,99,107,97,103,101,95,95,6,249,0,6,251,10,95,95,108,111,97,100,101,114,95,95,4,0,0,14,6,252,8,95,95,115,112,101,99,95,95,4,0,0,26,6,253,7,99,111,109,112,105,108,101,9,12,95,115,114,101,46,99,111,109,112,105,108,101,6,254,8,116,101,109,112,108,97,116,101,9,13,95,115,114,101,46,116,101,109,112,108,97,116,101,6,255,11,103,101,116,99,111,100,101,115,105,122,101,9,16,95,115,114,101,46,103,101,116,99,111,100,101,115,105,122,101,6,256,13,97,115,99,105,105,95,105,115,99,97,115,101,100,9,18,95,115,114,101,46,97,115,99,105,105,95,105,115,99,97,115,101,100,6,257,15,117,110,105,99,111,100,101,95,105,115,99,97,115,101,100,9,20,95,115,114,101,46,117,110,105,99,111,100,101,95,105,115,99,97,115,101,100,6,258,13,97,115,99,105,105,95,116,111,108,111,119,101,114,9,18,95,115,114,101,46,97,115,99,105,105,95,116,111,108,111,119,101,114,6,259,15,117,110,105,99,111,100,101,95,116,111,108,111,119,101,114,9,20,95,115,114,101,46,117,110,105,99,111,100,101,95,116,111,108,111,119,101,114,6,261,5,77,65,71,73,67,4,260,0,20230612,6,263,8,67,79,68,69,83,73,90,69,4,262,0,4,6,265,9,77,65,88,82,69,80,69,65,84,4,264,0,4294967295,6,267,9,77,65,88,71,82,79,85,80,83,4,266,0,1073741823,6,269,9,99,111,112,121,114,105,103,104,116,6,268,53,32,83,82,69,32,50,46,50,46,50,32,67,111,112,121,114,105,103,104,116,32,40,99,41,32,49,57,57,55,45,50,48,48,50,32,98,121,32,83,101,99,114,101,116,32,76,97,98,115,32,65,66,32]⟩⟩ 0),(.bool true),(.bool false),(.str qBi 271)] 0),#[]⟩
def zRa(P:Params)(t:List DictEntry):List DictEntry:=(zX0 P s0 165 (.str kU 289))::(zX0 P s2 166 .none)::(zX0 P s3 167 .none)::(zX0 P s4 168 (.builtin zLn))::(zX0 P s5 169 .none)::(zX0 P qTz 170 (.ref 6))::(zX0 P qTy 171 (.ref 4))::(zX0 P qTx 173 (.str qY 172))::(zX0 P qTw 174 .none)::(zX0 P qBi 275 (.ref 12))::(zX0 P qEa 288 (.ref 38))::(zX0 P qZm 504 (.ref 43))::(zX0 P qZl 548 (.ref 48))::t
def o29(P:Params):Obj:=⟨(.type t0),none,(.dict ⟨zRa P []⟩ 13),#[]⟩
def o30:Obj:=⟨.none,none,(.fields #[i2,i0,(.ref 37)]),#[]⟩
def o36:Obj:=⟨(.type t71),none,(.seq #[.none] 0),#[]⟩
def zQz(P:Params)(t:List DictEntry):List DictEntry:=zRa P ((zX0 P qZk 823 (.ref 53))::(zX0 P qZj 857 (.ref 58))::t)
def o42(P:Params):Obj:=⟨(.type t0),none,(.dict ⟨zQz P []⟩ 15),#[]⟩
def zQy(P:Params)(t:List DictEntry):List DictEntry:=zQz P ((zX0 P qZi 954 (.ref 63))::(zX0 P qZh 984 (.ref 68))::(zX0 P qZg 1008 (.ref 73))::t)
def o49(P:Params):Obj:=⟨(.type t0),none,(.dict ⟨zQy P []⟩ 18),#[]⟩
def zQx(P:Params)(t:List DictEntry):List DictEntry:=zQy P ((zX0 P qTv 1017 (Jz 0 1012))::(zX0 P qTu 1018 (Jz 1 1013))::(zX0 P qTt 1019 (Jz 2 1014))::(zX0 P qTs 1020 (Jz 3 1015))::(zX0 P qTr 1021 (Jz 4 1016))::(zX0 P qZf 1023 (.ref 78))::(zX0 P qZe 1025 (.ref 79))::(zX0 P qZd 1027 (.ref 80))::(zX0 P qZc 1029 (.ref 81))::(zX0 P qZb 1031 (.ref 82))::(zX0 P qZa 1033 (.ref 83))::t)
def o59(P:Params):Obj:=⟨(.type t0),none,(.dict ⟨zQx P []⟩ 29),#[]⟩
def zQw(P:Params)(t:List DictEntry):List DictEntry:=zQx P ((zX0 P qCk 1061 (.ref 100))::t)
def o69(P:Params):Obj:=⟨(.type t0),none,(.dict ⟨zQw P []⟩ 30),#[]⟩
def o70:Obj:=⟨.none,none,(.fields #[i2,i0,(.ref 37),(Iz 20),i0,(.ref 89)]),#[]⟩
def o73(P:Params):Obj:=⟨(.type t0),none,(.dict #[(zX0 P qBh 1041 (.str kU 289)),(zX0 P zFr 1043 (.str qCk 1042)),(zX0 P qBg 1045 (Jz 20 1044)),(zX0 P qNe 1053 (.ref 97)),(zX0 P qBf 1054 (.ref 98))] 5),#[]⟩
def o81(P:Params):Obj:=⟨(.type t0),none,(.dict #[(zX0 P qBh 1041 (.str kU 289)),(zX0 P qBg 1045 (Jz 20 1044)),(zX0 P qNe 1053 (.ref 97)),(zX0 P qBf 1054 (.ref 98)),(zX0 P qBe 1056 (.ref 101)),(zX0 P qBd 1058 (.ref 102)),(zX0 P s2 1059 .none)] 4),#[]⟩
def o87:Obj:=⟨(.type qCe),none,(.fields #[(.builtin (SL.s15322075717076897914x13)),(.ref 100)]),#[]⟩
def o88:Obj:=⟨(.type t64),none,(.fields #[(Jz 0 1064),(Jz 128 1063),(Jz 1 1065)]),#[]⟩
def qJm:Obj:=⟨(.type qDy),none,(.fields #[(Iz 128),i0,i1]),#[]⟩
def zLb(P:Params)(t:List DictEntry):List DictEntry:=zQw P ((zX0 P qYz 1323 (.ref 108))::t)
def zGv(P:Params):Obj:=⟨(.type t0),none,(.dict ⟨zLb P []⟩ 31),#[]⟩
def qNk:Obj:=⟨(.type t93),none,(.fields #[(.ref 110),.none,.none,.none,(.bool false),.none]),#[]⟩
def zRv(P:Params):Obj:=⟨(.type qMd),none,(.dict #[(zX0 P qTq 1330 (.ref 112)),(zX0 P qTp 1337 (.str "[" 1348))] 2),#[]⟩
def zRu(P:Params):Obj:=⟨(.type qMd),none,(.dict #[(zX0 P qTq 1360 (.ref 127)),(zX0 P qTp 1367 (.str "]" 1378))] 2),#[]⟩
def zGu:Obj:=⟨(.ref 100),(some 107),(.dict ⟨(TE 0 1067 (⟨(.ofNat 10),(Jz 10 1087),(Jz 10 1414)⟩::(TE 11 1089 (⟨(.ofNat 34),(Jz 34 1135),(Jz 34 1399)⟩::⟨(.ofNat 35),(Jz 35 1137),(Jz 35 1419)⟩::⟨(.ofNat 36),(Jz 36 1139),(Jz 120 1066)⟩::⟨(.ofNat 37),(Jz 37 1141),(Jz 120 1066)⟩::⟨(.ofNat 38),(Jz 38 1143),(Jz 120 1066)⟩::⟨(.ofNat 39),(Jz 39 1145),(Jz 39 1404)⟩::e0::⟨(.ofNat 41),(Jz 41 1149),(Jz 41 1370)⟩::(TE 42 1151 (e1::⟨(.ofNat 92),(Jz 92 1251),(Jz 92 1409)⟩::⟨(.ofNat 93),(Jz 93 1253),(Jz 41 1382)⟩::(TE 94 1255 (e2::⟨(.ofNat 124),(Jz 124 1315),(Jz 120 1066)⟩::⟨(.ofNat 125),(Jz 125 1317),(Jz 41 1376)⟩::⟨(.ofNat 126),(Jz 126 1319),(Jz 120 1066)⟩::⟨(.ofNat 127),(Jz 127 1321),(Jz 120 1066)⟩::[]) 29)) 49)) 23)) 10)⟩ 128),#[]⟩
def zRt(P:Params):Obj:=⟨(.type qMd),none,(.dict #[(zX0 P qTq 1390 (.ref 142)),(zX0 P qTp 1397 (.str "#" 1416))] 2),#[]⟩
def zRs(P:Params):Obj:=⟨(.type t0),none,(.dict ⟨zLb P ((zX0 P qCj 1604 (.ref 266))::[])⟩ 32),#[]⟩
def zRr(P:Params):Obj:=⟨(.type t0),none,(.dict #[(zX0 P qBh 1428 (.str kU 289)),(zX0 P zFr 1430 (.str qCj 1429)),(zX0 P qBg 1432 (Jz 28 1431)),(zX0 P qGx 1441 (.ref 172)),(zX0 P qNd 1449 (.ref 179)),(zX0 P qNc 1464 (.ref 186)),(zX0 P qNb 1472 (.ref 193)),(zX0 P qNa 1491 (.ref 200)),(zX0 P qMz 1498 (.ref 207)),(zX0 P qMy 1518 (.ref 214)),(zX0 P qMx 1532 (.ref 221)),(zX0 P qMw 1539 (.ref 228)),(zX0 P qMv 1553 (.ref 235)),(zX0 P qMu 1564 (.ref 242)),(zX0 P qMt 1571 (.ref 249)),(zX0 P qMs 1578 (.ref 256)),(zX0 P qMr 1585 (.ref 263)),(zX0 P qBf 1597 (.ref 264))] 18),#[]⟩
def zRq(P:Params):Obj:=⟨(.type t0),none,(.dict #[(zX0 P qBh 1428 (.str kU 289)),(zX0 P qBg 1432 (Jz 28 1431)),(zX0 P qGx 1441 (.ref 172)),(zX0 P qNd 1449 (.ref 179)),(zX0 P qNc 1464 (.ref 186)),(zX0 P qNb 1472 (.ref 193)),(zX0 P qNa 1491 (.ref 200)),(zX0 P qMz 1498 (.ref 207)),(zX0 P qMy 1518 (.ref 214)),(zX0 P qMx 1532 (.ref 221)),(zX0 P qMw 1539 (.ref 228)),(zX0 P qMv 1553 (.ref 235)),(zX0 P qMu 1564 (.ref 242)),(zX0 P qMt 1571 (.ref 249)),(zX0 P qMs 1578 (.ref 256)),(zX0 P qMr 1585 (.ref 263)),(zX0 P qBf 1597 (.ref 264)),(zX0 P qBe 1599 (.ref 267)),(zX0 P qBd 1601 (.ref 268)),(zX0 P s2 1602 .none)] 4),#[]⟩
def zPi(P:Params):Obj:=⟨(.type t0),none,(.dict #[(zX0 P s0 165 (.str zFq 1605)),(zX0 P s2 166 .none),(zX0 P s3 167 .none),(zX0 P s4 168 (.builtin zLn)),(zX0 P s5 169 .none),(zX0 P qTz 170 (.ref 6)),(zX0 P qTy 171 (.ref 4)),(zX0 P qTx 173 (.str qY 172)),(zX0 P qTw 174 .none),(zX0 P qBi 275 (.ref 12)),(zX0 P qEa 288 (.ref 38)),(zX0 P qZm 504 (.ref 43)),(zX0 P qZl 548 (.ref 48)),(zX0 P qZk 823 (.ref 53)),(zX0 P qZj 857 (.ref 58)),(zX0 P qZi 954 (.ref 63)),(zX0 P qZh 984 (.ref 68)),(zX0 P qZg 1008 (.ref 73)),(zX0 P qTv 1017 (Jz 0 1012)),(zX0 P qTu 1018 (Jz 1 1013)),(zX0 P qTt 1019 (Jz 2 1014)),(zX0 P qTs 1020 (Jz 3 1015)),(zX0 P qTr 1021 (Jz 4 1016)),(zX0 P qZf 1023 (.ref 78)),(zX0 P qZe 1025 (.ref 79)),(zX0 P qZd 1027 (.ref 80)),(zX0 P qZc 1029 (.ref 81)),(zX0 P qZb 1031 (.ref 82)),(zX0 P qZa 1033 (.ref 83)),(zX0 P qCk 1061 (.ref 100)),(zX0 P qYz 1323 (.ref 108)),(zX0 P qCj 1604 (.ref 266)),(zX0 P qIx 1612 (.ref 275)),(zX0 P qIw 1618 (.ref 280)),(zX0 P qIv 1624 (.ref 285))] 35),#[]⟩
def zRp(P:Params):Obj:=⟨(.type t0),none,(.dict #[(zX0 P s0 247 (.str qBi 246)),(zX0 P s2 248 .none),(zX0 P s3 250 (.str zGc 249)),(zX0 P s4 251 (.ref 14)),(zX0 P s5 252 (.ref 26)),(zX0 P s16 253 (.builtin (SL.s492968859115322481x12))),(zX0 P zGb 254 (.builtin (SL.s4732307381456220424x13))),(zX0 P zGa 255 (.builtin (SL.s3100639726926479615x16))),(zX0 P zFz 256 (.builtin (SL.s1824190863884607803x18))),(zX0 P zFy 257 (.builtin (SL.s15517275503517908518x20))),(zX0 P zFx 258 (.builtin (SL.s13462958993096105742x18))),(zX0 P zFw 259 (.builtin (SL.s7205697838950415266x20))),(zX0 P zFv 261 (Jz 20230612 260)),(zX0 P zFu 263 (Jz 4 262)),(zX0 P zFt 265 (Jz 4294967295 264)),(zX0 P zFs 267 (Jz 1073741823 266)),(zX0 P qUb 269 (.str " SRE 2.2.2 Copyright (c) 1997-2002 by Secret Labs AB " 268))] 17),#[]⟩
noncomputable def env:Env:={ scope:=pw_dm0167_06.main.scope,locals:=mainNs,globals:=mainNs,cells:=[],code:=.ref 30,frame:=some 31 }
def l0:List Stmt:=[nth TB 1,nth TB 2,nth TB 3,nth TB 4]
def l1:List Stmt:=[nth TB 5,nth TB 6]
def l2:List Stmt:=[nth TB 7,nth TB 8,nth TB 9]
def l3:List Stmt:=[nth TB 10,nth TB 11,nth TB 12,nth TB 13,nth TB 14,nth TB 15,nth TB 16]
def l4:List Stmt:=[nth TB 17]
def l5:List Stmt:=[nth TB 18]
def l6:List Stmt:=[nth TB 19]
def l7:List Stmt:=[nth TB 20]
def l8:List Stmt:=[nth TB 21]
def l9:List Stmt:=[nth TB 22]
def l10:List Stmt:=[nth TB 23,nth TB 24,nth TB 25,nth TB 26]
def bE:List Stmt:=l0++(l1++(l2++(l3++(l4++(l5++(l6++(l7++(l8++(l9++(l10++(([]:List Stmt))))))))))))
def cE:Code:=.body bE env
noncomputable def q:Pos:=⟨0,0,0,0⟩
def xT(l:List Stmt)(p:Pos):Thread:=⟨PySem.Sem.wrap doneF deadEnd id id (tw12563942051412417395 l env),cE,p,[topFrame q]⟩
theorem kO(l:List Stmt)(p:Pos):piecesOf l env cE p [topFrame q]=xT l p:=by show(⟨(execs l env).wrap doneF deadEnd id id,cE,p,[topFrame q]⟩:Thread)=_;delta xT;rw[te12563942051412417395]
def LA(P:Params)(x3 fu:Obj)(t:List Obj):List Obj:=(o0 P)::(o1 P)::(o2 P)::x3::o4::o5::o6::o7::o8::o9::o10::(o11 P)::o12::(o13 P)::o14::o7::o15::o16::o17::o18::(o19 P)::(o20 P)::o21::o22::o23::o24::o25::o26::o7::fu::(⟨(.type xU),none,(.fields #[(.str zGd 277),(.str zGd 278),(.str qY 279),i1,i0,i0,i0,i0,(.ref 28),(.bool false),kA,(.ref 29),.none,.none,.none,.none,(Iz 280),i1,(.str qY 281)]),#[]⟩:Obj)::(⟨(.type qMd),none,.plain,#[(some (.ref 30)),(some (.ref 3)),(some (.ref 3)),none,(some (.str qUa 164)),none,(some (.ref 0))]⟩:Obj)::t
def LS0(P:Params)(t:List Obj):List Obj:=o7::o8::(⟨(.type t71),none,(.seq #[(.str "k" 285)] 0),#[]⟩:Obj)::o7::(⟨.none,none,(Fz (nth TB 1) qEa qEa),#[]⟩:Obj)::(⟨(.type xU),none,(.fields #[(.str qEa 282),(.str qEa 283),(.str qY 284),i2,i1,i0,i0,i3,(.ref 32),(.bool true),kA,(.ref 33),.none,(.ref 34),(.ref 35),(.ref 36),(Iz 286),i2,(.str qY 287)]),#[]⟩:Obj)::(⟨(.type jE),none,(Gz (nth TB 1) qEa qEa (.str qUa 164) (.ref 37)),#[]⟩:Obj)::(⟨(.type t61),none,(.seq ⟨TJ 294 Mine.Lake.pj⟩ 0),#[]⟩:Obj)::o6::o36::(⟨(.type t71),none,(.seq ⟨TI Mine.Lake.pj⟩ 0),#[]⟩:Obj)::(⟨(.type qMc),none,(.fields #[(.str "\n    ^\n    [ \\t]*\n    (?: while\n    |   else\n    |   def\n    |   return\n    |   assert\n    |   break\n    |   class\n    |   continue\n    |   elif\n    |   try\n    |   except\n    |   raise\n    |   \x69mport\n    |   yield\n    )\n    \\b\n" 292),(Jz 104 503),i0,.none,.none,(.ref 42),i0]),#[]⟩:Obj)::(⟨(.type t61),none,(.seq ⟨TJ 508 Mine.Lake.pk⟩ 0),#[]⟩:Obj)::o6::o36::(⟨(.type t71),none,(.seq ⟨TI Mine.Lake.pk⟩ 0),#[]⟩:Obj)::(⟨(.type qMc),none,(.fields #[(.str "\n    [ \\t]*\n    (?: \\# \\S .* )?\n    \\n\n" 506),(Jz 96 547),i0,.none,.none,(.ref 47),i0]),#[]⟩:Obj)::t
def LS1(P:Params)(t:List Obj):List Obj:=(⟨(.type t61),none,(.seq ⟨TJ 552 Mine.Lake.pn⟩ 0),#[]⟩:Obj)::o6::o36::(⟨(.type t71),none,(.seq ⟨TI Mine.Lake.pn⟩ 0),#[]⟩:Obj)::(⟨(.type qMc),none,(.fields #[(.str "\n    \\\"\"\" [^\"\\\\]* (?:\n                     (?: \\\\. | \"(?!\"\") )\n                     [^\"\\\\]*\n                 )*\n    (?: \\\"\"\" )?\n\n|   \" [^\"\\\\\\n]* (?: \\\\. [^\"\\\\\\n]* )* \"?\n\n|   ''' [^'\\\\]* (?:\n                   (?: \\\\. | '(?!'') )\n                   [^'\\\\]*\n                )*\n    (?: ''' )?\n\n|   ' [^'\\\\\\n]* (?: \\\\. [^'\\\\\\n]* )* '?\n" 550),(Jz 112 822),i0,.none,.none,(.ref 52),i0]),#[]⟩:Obj)::(⟨(.type t61),none,(.seq ⟨TJ 827 Mine.Lake.pq⟩ 0),#[]⟩:Obj)::o6::o36::(⟨(.type t71),none,(.seq ⟨TI Mine.Lake.pq⟩ 0),#[]⟩:Obj)::(⟨(.type qMc),none,(.fields #[(.str "\n    [ \\t]*\n    [^\\s#\\\\]    # if we match, m.end()-1 is the interesting char\n" 825),(Jz 96 856),i0,.none,.none,(.ref 57),i0]),#[]⟩:Obj)::t
def LS2(P:Params)(t:List Obj):List Obj:=(⟨(.type t61),none,(.seq ⟨TJ 861 Mine.Lake.pr⟩ 0),#[]⟩:Obj)::o6::o36::(⟨(.type t71),none,(.seq ⟨TI Mine.Lake.pr⟩ 0),#[]⟩:Obj)::(⟨(.type qMc),none,(.fields #[(.str "\n    \\s*\n    (?: return\n    |   break\n    |   continue\n    |   raise\n    |   pass\n    )\n    \\b\n" 859),(Jz 96 953),i0,.none,.none,(.ref 62),i0]),#[]⟩:Obj)::(⟨(.type t61),none,(.seq ⟨TJ 958 Mine.Lake.pu⟩ 0),#[]⟩:Obj)::o6::o36::(⟨(.type t71),none,(.seq ⟨TI Mine.Lake.pu⟩ 0),#[]⟩:Obj)::(⟨(.type qMc),none,(.fields #[(.str "\n    [^[\\](){}#'\"\\\\]+\n" 956),(Jz 96 983),i0,.none,.none,(.ref 67),i0]),#[]⟩:Obj)::(⟨(.type t61),none,(.seq ⟨TJ 988 [14,4,0,1,4294967295,24,9,0,4294967295,13,4,8,12,0,1,16,92,1]⟩ 0),#[]⟩:Obj)::o6::o36::(⟨(.type t71),none,(.seq ⟨TI [14,4,0,1,4294967295,24,9,0,4294967295,13,4,8,12,0,1,16,92,1]⟩ 0),#[]⟩:Obj)::(⟨(.type qMc),none,(.fields #[(.str "\\s*\\\\" 986),(Jz 32 1007),i0,.none,.none,(.ref 72),i0]),#[]⟩:Obj)::t
def LS3(P:Params)(t:List Obj):List Obj:=(⟨(.type t64),none,(.fields #[(Jz 0 1010),(Jz 5 1009),(Jz 1 1011)]),#[]⟩:Obj)::(⟨(.type qDy),none,(.fields #[(Iz 5),i0,i1]),#[]⟩:Obj)::o7::(⟨(.type t93),none,(.fields #[(.ref 76),.none,.none,.none,(.bool false),.none]),#[]⟩:Obj)::(⟨(.type qCe),none,(.fields #[(.builtin (SL.s9858327723941210770x17)),(.ref 43)]),#[]⟩:Obj)::(⟨(.type qCe),none,(.fields #[(.builtin qXl),(.ref 48)]),#[]⟩:Obj)::(⟨(.type qCe),none,(.fields #[(.builtin qXl),(.ref 53)]),#[]⟩:Obj)::(⟨(.type qCe),none,(.fields #[(.builtin qXl),(.ref 58)]),#[]⟩:Obj)::(⟨(.type qCe),none,(.fields #[(.builtin qXl),(.ref 63)]),#[]⟩:Obj)::(⟨(.type qCe),none,(.fields #[(.builtin qXl),(.ref 68)]),#[]⟩:Obj)::t
def LS4(P:Params)(t:List Obj):List Obj:=(⟨(.type t71),none,(.seq #[(.type t0)] 0),#[]⟩:Obj)::(⟨(.type qCe),none,(.fields #[(.builtin (SL.s10062305145149207511x16)),(.type t72)]),#[]⟩:Obj)::(o73 P)::o7::(⟨.none,none,(.fields #[(Iz 22),i4,(.ref 96)]),#[]⟩:Obj)::(⟨(.type xU),none,(.fields #[(.str qCk 1036),(.str qCk 1037),(.str qY 1038),(Iz 20),i0,i0,i0,i0,(.ref 87),(.bool false),kA,(.ref 88),.none,.none,.none,.none,(Iz 1039),(Iz 20),(.str qY 1040)]),#[]⟩:Obj)::(⟨(.type qMd),none,.plain,#[(some (.ref 89)),(some (.ref 3)),(some (.ref 86)),none,(some (.str kU 289)),none,(some (.ref 0))]⟩:Obj)::o7::o8::(⟨(.type t71),none,(.seq #[(.str yH 1049),(.str "key" 1050)] 0),#[]⟩:Obj)::o7::(⟨.none,none,(Fz (nth (cls (nth TB 17)) 0) qNe "ParseMap.__missing__"),#[]⟩:Obj)::(⟨(.type xU),none,(.fields #[(.str qNe 1046),(.str "ParseMap.__missing__" 1047),(.str qY 1048),(Iz 22),i2,i0,i0,i3,(.ref 91),(.bool true),kA,(.ref 92),.none,(.ref 93),(.ref 94),(.ref 95),(Iz 1051),(Iz 22),(.str qY 1052)]),#[]⟩:Obj)::(⟨(.type jE),none,(Gz (nth (cls (nth TB 17)) 0) qNe "ParseMap.__missing__" (.str kU 289) (.ref 96)),#[]⟩:Obj)::o7::(o81 P)::(⟨(.type t72),none,(.cls ⟨qCk,[(.type t0)],[(.ref 100),(.type t0),(.type t63)],99,qCk,true,[],[],false,none,false⟩),#[(some (.ref 84)),none,(some (.str qCk 1034)),(some (.str qCk 1042)),(some (.builtin (SL.s15987600418018006706x12))),(some (.bool true))]⟩:Obj)::(⟨(.type qIl),none,(.fields #[(.str qBe 1055),(.ref 100),(.builtin zEs),(.builtin zEr)]),#[]⟩:Obj)::(⟨(.type qIl),none,(.fields #[(.str qBd 1057),(.ref 100),(.builtin zEq),.none]),#[]⟩:Obj)::(⟨(.type t70),none,(.fields #[(.ref 100),(.ref 100),(.ref 100)]),#[]⟩:Obj)::(⟨(.type qCe),none,(.fields #[(.builtin (SL.s4860613602091757760x24)),(.ref 100)]),#[]⟩:Obj)::t
def LS5(P:Params)(t:List Obj):List Obj:=(⟨(.type (SL.s13500813778147066322x18)),none,(.fields #[.none,i3]),#[]⟩:Obj)::o7::o8::(⟨(.type xU),none,(.fields #[(.str qBc 1325),(.str qBc 1326),(.str qY 1327),(Iz 25),i1,i0,i0,(Iz 35),(.ref 113),(.bool true),kA,(.ref 114),.none,.none,.none,.none,(Iz 1328),(Iz 25),(.str qY 1329)]),#[]⟩:Obj)::(zRv P)::(⟨(.type zLl),none,(.fields #[i0,(.str qBc 1331),(.str qBc 1332)]),#[]⟩:Obj)::(⟨(.type t71),none,(.seq #[(.str "'generator' object has no attribute 'keys'" 1334)] 0),#[]⟩:Obj)::(⟨(.type t82),none,(.fields #[(.ref 118),.none,.none,.none,(.bool false),.none,(.str "keys" 1335),(.ref 117)]),#[]⟩:Obj)::(⟨(.type t71),none,(.seq #[(Jz 40 1338),(Jz 40 1340)] 0),#[]⟩:Obj)::(⟨(.type t71),none,(.seq #[(Jz 123 1344),(Jz 40 1346)] 0),#[]⟩:Obj)::(⟨(.type t71),none,(.seq #[(Jz 91 1350),(Jz 40 1352)] 0),#[]⟩:Obj)::o7::(⟨(.type t93),none,(.fields #[(.ref 123),.none,.none,.none,(.bool false),.none]),#[]⟩:Obj)::o7::(⟨(.type t93),none,(.fields #[(.ref 125),.none,.none,.none,(.bool false),.none]),#[]⟩:Obj)::t
def LS6(P:Params)(t:List Obj):List Obj:=(⟨(.type (SL.s13500813778147066322x18)),none,(.fields #[.none,i3]),#[]⟩:Obj)::o7::o8::(⟨(.type xU),none,(.fields #[(.str qBc 1355),(.str qBc 1356),(.str qY 1357),(Iz 26),i1,i0,i0,(Iz 35),(.ref 128),(.bool true),kA,(.ref 129),.none,.none,.none,.none,(Iz 1358),(Iz 26),(.str qY 1359)]),#[]⟩:Obj)::(zRu P)::(⟨(.type zLl),none,(.fields #[i1,(.str qBc 1361),(.str qBc 1362)]),#[]⟩:Obj)::(⟨(.type t71),none,(.seq #[(.str "'generator' object has no attribute 'keys'" 1364)] 0),#[]⟩:Obj)::(⟨(.type t82),none,(.fields #[(.ref 133),.none,.none,.none,(.bool false),.none,(.str "keys" 1365),(.ref 132)]),#[]⟩:Obj)::(⟨(.type t71),none,(.seq #[(Jz 41 1368),(Jz 41 1370)] 0),#[]⟩:Obj)::(⟨(.type t71),none,(.seq #[(Jz 125 1374),(Jz 41 1376)] 0),#[]⟩:Obj)::(⟨(.type t71),none,(.seq #[(Jz 93 1380),(Jz 41 1382)] 0),#[]⟩:Obj)::o7::(⟨(.type t93),none,(.fields #[(.ref 138),.none,.none,.none,(.bool false),.none]),#[]⟩:Obj)::o7::(⟨(.type t93),none,(.fields #[(.ref 140),.none,.none,.none,(.bool false),.none]),#[]⟩:Obj)::t
def LS7(P:Params)(t:List Obj):List Obj:=(⟨(.type (SL.s13500813778147066322x18)),none,(.fields #[.none,(Iz 5)]),#[]⟩:Obj)::o7::o8::(⟨(.type xU),none,(.fields #[(.str qBc 1385),(.str qBc 1386),(.str qY 1387),(Iz 27),i1,i0,i0,(Iz 35),(.ref 143),(.bool true),kA,(.ref 144),.none,.none,.none,.none,(Iz 1388),(Iz 27),(.str qY 1389)]),#[]⟩:Obj)::(zRt P)::(⟨(.type zLl),none,(.fields #[i2,(.str qBc 1391),(.str qBc 1392)]),#[]⟩:Obj)::(⟨(.type t71),none,(.seq #[(.str "'generator' object has no attribute 'keys'" 1394)] 0),#[]⟩:Obj)::(⟨(.type t82),none,(.fields #[(.ref 148),.none,.none,.none,(.bool false),.none,(.str "keys" 1395),(.ref 147)]),#[]⟩:Obj)::(⟨(.type t71),none,(.seq #[(Jz 34 1398),(Jz 34 1399)] 0),#[]⟩:Obj)::(⟨(.type t71),none,(.seq #[(Jz 39 1403),(Jz 39 1404)] 0),#[]⟩:Obj)::(⟨(.type t71),none,(.seq #[(Jz 92 1408),(Jz 92 1409)] 0),#[]⟩:Obj)::(⟨(.type t71),none,(.seq #[(Jz 10 1413),(Jz 10 1414)] 0),#[]⟩:Obj)::(⟨(.type t71),none,(.seq #[(Jz 35 1418),(Jz 35 1419)] 0),#[]⟩:Obj)::o7::(⟨(.type t93),none,(.fields #[(.ref 155),.none,.none,.none,(.bool false),.none]),#[]⟩:Obj)::o7::(⟨(.type t93),none,(.fields #[(.ref 157),.none,.none,.none,(.bool false),.none]),#[]⟩:Obj)::t
def tSq:Nat->List Str->List Value
 |_,[]=>[]
 |n,x::r=>.str x n::tSq (n+1) r
def FNq(i:Nat)(x y:Str)(n l:Nat)(a b:Value)(k:Nat)(v:List Str)(t:List Obj):List Obj:=o7::o8::(⟨(.type t71),none,(.seq ⟨tSq (n+3) v⟩ 0),#[]⟩:Obj)::o7::(⟨.none,none,(Fz (nth (cls (nth TB 22)) i) x y),#[]⟩:Obj)::(⟨(.type xU),none,(.fields #[(.str x n),(.str y (n+1)),(.str qY (n+2)),(Iz l),a,i0,i0,b,(.ref k),(.bool true),kA,(.ref (k+1)),.none,(.ref (k+2)),(.ref (k+3)),(.ref (k+4)),(Iz (n+3+v.length)),(Iz l),(.str qY (n+4+v.length))]),#[]⟩:Obj)::(⟨(.type jE),none,(Gz (nth (cls (nth TB 22)) i) x y (.str kU 289) (.ref (k+5))),#[]⟩:Obj)::t
def LS8(P:Params)(t:List Obj):List Obj:=o7::(⟨(.type qCe),none,(.fields #[(.builtin (SL.s10062305145149207511x16)),(.type t72)]),#[]⟩:Obj)::(zRr P)::o7::(⟨.none,none,(.fields #[(Iz 30),i4,(.ref 171),(Iz 34),i4,(.ref 178),(Iz 39),i4,(.ref 185),(Iz 64),i4,(.ref 192),(Iz 69),i4,(.ref 199),(Iz 154),i4,(.ref 206),(Iz 158),i4,(.ref 213),(Iz 231),i4,(.ref 220),(Iz 254),i4,(.ref 227),(Iz 257),i4,(.ref 234),(Iz 294),i4,(.ref 241),(Iz 303),i4,(.ref 248),(Iz 306),i4,(.ref 255),(Iz 310),i4,(.ref 262)]),#[]⟩:Obj)::(⟨(.type xU),none,(.fields #[(.str qCj 1423),(.str qCj 1424),(.str qY 1425),(Iz 28),i0,i0,i0,i0,(.ref 162),(.bool false),kA,(.ref 163),.none,.none,.none,.none,(Iz 1426),(Iz 28),(.str qY 1427)]),#[]⟩:Obj)::(⟨(.type qMd),none,.plain,#[(some (.ref 164)),(some (.ref 3)),(some (.ref 161)),none,(some (.str kU 289)),none,(some (.ref 0))]⟩:Obj)::FNq 0 qGx "Parser.__init__" 1433 30 i3 i3 166 [yH,"indentwidth","tabwidth"] (FNq 1 qNd "Parser.set_code" 1442 34 i2 i3 173 [yH,"s"] (FNq 2 qNc "Parser.find_good_parse_start" 1450 39 i2 i3 180 [yH,"is_char_in_string",qMq,"pos","limit","tries",qTo,"m","s"] (FNq 3 qNb "Parser.set_lo" 1465 64 i2 i3 187 [yH,"lo"] (FNq 4 qNa "Parser._study1" 1473 69 i1 i3 194 [yH,qMq,"continuation","level","lno","goodlines","push_good",qTo,"n","ch","quote","firstlno","w"] (FNq 5 qMz "Parser.get_continuation_type" 1492 154 i1 i3 201 [yH] (FNq 6 qMy "Parser._study2" 1499 158 i1 i3 208 [yH,qMq,"goodlines",qTo,"p","q","nothing","lastch","stack","push_stack","bracketing","m","newp","ch"] (FNq 7 qMx "Parser.compute_bracket_indent" 1519 231 i1 i3 215 [yH,"j",qMq,"n","origi",qTo,"m","extra"] (FNq 8 qMw "Parser.get_num_lines_in_stmt" 1533 254 i1 i3 222 [yH] (FNq 9 qMv "Parser.compute_backslash_indent" 1540 257 i1 i3 229 [yH,qMq,qTo,"startpos","endpos","found","level","ch"] (FNq 10 qMu "Parser.get_base_indent_string" 1554 294 i1 i3 236 [yH,qTo,"n","j",qMq] (FNq 11 qMt "Parser.is_block_opener" 1565 303 i1 i3 243 [yH] (FNq 12 qMs "Parser.is_block_closer" 1572 306 i1 i3 250 [yH] (FNq 13 qMr "Parser.get_last_stmt_bracketing" 1579 310 i1 i3 257 [yH] ((⟨(.type t71),none,(.seq #[(.str qMq 1586),(.str "continuation" 1587),(.str "goodlines" 1588),(.str "indentwidth" 1589),(.str "lastch" 1590),(.str "lastopenbracketpos" 1591),(.str "stmt_bracketing" 1592),(.str "stmt_end" 1593),(.str "stmt_start" 1594),(.str "study_level" 1595),(.str "tabwidth" 1596)] 0),#[]⟩:Obj)::(zRq P)::(⟨(.type t72),none,(.cls ⟨qCj,[(.type t63)],[(.ref 266),(.type t63)],265,qCj,true,[],[],false,none,false⟩),#[none,none,(some (.str qCj 1421)),(some (.str qCj 1429)),(some (.builtin (SL.s11443829558043349243x14))),(some (.bool true))]⟩:Obj)::(⟨(.type qIl),none,(.fields #[(.str qBe 1598),(.ref 266),(.builtin zEs),(.builtin zEr)]),#[]⟩:Obj)::(⟨(.type qIl),none,(.fields #[(.str qBd 1600),(.ref 266),(.builtin zEq),.none]),#[]⟩:Obj)::(⟨(.type t70),none,(.fields #[(.ref 266),(.ref 266),(.ref 266)]),#[]⟩:Obj)::(⟨(.type qCe),none,(.fields #[(.builtin (SL.s4860613602091757760x24)),(.ref 266)]),#[]⟩:Obj)::t))))))))))))))
def LS9(P:Params)(t:List Obj):List Obj:=o7::o8::(⟨.none,none,(Fz (nth TB 24) qIx qIx),#[]⟩:Obj)::(⟨(.type xU),none,(.fields #[(.str qIx 1607),(.str qIx 1608),(.str qY 1609),(Iz 314),i1,i0,i0,i3,(.ref 271),(.bool true),kA,(.ref 272),.none,.none,.none,(.ref 273),(Iz 1610),(Iz 314),(.str qY 1611)]),#[]⟩:Obj)::(⟨(.type jE),none,(Gz (nth TB 24) qIx qIx (.str zFq 1605) (.ref 274)),#[]⟩:Obj)::o7::o8::(⟨.none,none,(Fz (nth TB 25) qIw qIw),#[]⟩:Obj)::(⟨(.type xU),none,(.fields #[(.str qIw 1613),(.str qIw 1614),(.str qY 1615),(Iz 319),i2,i0,i0,i3,(.ref 276),(.bool true),kA,(.ref 277),.none,.none,.none,(.ref 278),(Iz 1616),(Iz 319),(.str qY 1617)]),#[]⟩:Obj)::(⟨(.type jE),none,(Gz (nth TB 25) qIw qIw (.str zFq 1605) (.ref 279)),#[]⟩:Obj)::o7::o8::(⟨.none,none,(Fz (nth TB 26) qIv qIv),#[]⟩:Obj)::(⟨(.type xU),none,(.fields #[(.str qIv 1619),(.str qIv 1620),(.str qY 1621),(Iz 326),i1,i0,i0,i3,(.ref 281),(.bool true),kA,(.ref 282),.none,.none,.none,(.ref 283),(Iz 1622),(Iz 326),(.str qY 1623)]),#[]⟩:Obj)::(⟨(.type jE),none,(Gz (nth TB 26) qIv qIv (.str zFq 1605) (.ref 284)),#[]⟩:Obj)::t
def L0(P:Params):List Obj:=[(o0 P),(o1 P),(o2 P),(o3 P),o4,o5,o6,o7,o8,o9,o10,(o11 P),o12,(o13 P),o14,o7,o15,o16,o17,o18,(o19 P),(o20 P),o21,o22,o23,o24,o25,o26]
def S0(w:World)(os:OsState):SharedT:=⟨bt 12 (L0 w.params),28,{},#[],⟨0,0,0,0⟩,276,os⟩
def L1(P:Params):List Obj:=LA P (o3 P) o8 ([])
def S1(w:World)(os:OsState):SharedT:=⟨bt 12 (L1 w.params),32,{},#[],⟨0,0,0,0⟩,282,os⟩
def L2(P:Params):List Obj:=LA P (o3 P) o8 ([])
def S2(w:World)(os:OsState):SharedT:=⟨bt 12 (L2 w.params),32,{},#[],⟨0,0,0,0⟩,282,os⟩
def L3(P:Params):List Obj:=LA P (o29 P) o30 (LS0 P [])
def S3(w:World)(os:OsState):SharedT:=⟨bt 12 (L3 w.params),49,{},#[],⟨0,0,0,0⟩,549,os⟩
def L4(P:Params):List Obj:=LA P (o42 P) o30 (LS0 P (LS1 P []))
def S4(w:World)(os:OsState):SharedT:=⟨bt 12 (L4 w.params),59,{},#[],⟨0,0,0,0⟩,858,os⟩
def L5(P:Params):List Obj:=LA P (o49 P) o30 (LS0 P (LS1 P (LS2 P [])))
def S5(w:World)(os:OsState):SharedT:=⟨bt 12 (L5 w.params),74,{},#[],⟨0,0,0,0⟩,1009,os⟩
def L6(P:Params):List Obj:=LA P (o59 P) o30 (LS0 P (LS1 P (LS2 P (LS3 P []))))
def S6(w:World)(os:OsState):SharedT:=⟨bt 12 (L6 w.params),84,{},#[],⟨0,0,0,0⟩,1034,os⟩
def L7(P:Params):List Obj:=LA P (o69 P) o70 (LS0 P (LS1 P (LS2 P (LS3 P (LS4 P [])))))
def S7(w:World)(os:OsState):SharedT:=⟨bt 12 (L7 w.params),105,{},#[],⟨0,0,0,0⟩,1062,os⟩
def L8(P:Params):List Obj:=LA P (o69 P) o70 (LS0 P (LS1 P (LS2 P (LS3 P (LS4 P ([o87,o88,o6,(⟨(.ref 100),(some 107),(.dict #[] 0),#[]⟩:Obj),(⟨(.type qDy),none,(.fields #[i0,(Iz 128),i1]),#[]⟩:Obj)]))))))
def S8(w:World)(os:OsState):SharedT:=⟨bt 12 (L8 w.params),110,{},#[],⟨0,0,0,0⟩,1067,os⟩
def L9(P:Params):List Obj:=LA P (o69 P) o70 (LS0 P (LS1 P (LS2 P (LS3 P (LS4 P ([o87,o88,o6,(⟨(.ref 100),(some 107),(.dict ⟨(TE 0 1067 [] 16)⟩ 16),#[]⟩:Obj),(⟨(.type qDy),none,(.fields #[(Iz 16),(Iz 112),i1]),#[]⟩:Obj)]))))))
def S9(w:World)(os:OsState):SharedT:=⟨bt 12 (L9 w.params),110,{},#[],⟨0,0,0,0⟩,1099,os⟩
def L10(P:Params):List Obj:=LA P (o69 P) o70 (LS0 P (LS1 P (LS2 P (LS3 P (LS4 P ([o87,o88,o6,(⟨(.ref 100),(some 107),(.dict ⟨(TE 0 1067 [] 32)⟩ 32),#[]⟩:Obj),(⟨(.type qDy),none,(.fields #[(Iz 32),(Iz 96),i1]),#[]⟩:Obj)]))))))
def S10(w:World)(os:OsState):SharedT:=⟨bt 12 (L10 w.params),110,{},#[],⟨0,0,0,0⟩,1131,os⟩
def L11(P:Params):List Obj:=LA P (o69 P) o70 (LS0 P (LS1 P (LS2 P (LS3 P (LS4 P ([o87,o88,o6,(⟨(.ref 100),(some 107),(.dict ⟨(TE 0 1067 [] 48)⟩ 48),#[]⟩:Obj),(⟨(.type qDy),none,(.fields #[(Iz 48),(Iz 80),i1]),#[]⟩:Obj)]))))))
def S11(w:World)(os:OsState):SharedT:=⟨bt 12 (L11 w.params),110,{},#[],⟨0,0,0,0⟩,1163,os⟩
def L12(P:Params):List Obj:=LA P (o69 P) o70 (LS0 P (LS1 P (LS2 P (LS3 P (LS4 P ([o87,o88,o6,(⟨(.ref 100),(some 107),(.dict ⟨(TE 0 1067 [] 64)⟩ 64),#[]⟩:Obj),(⟨(.type qDy),none,(.fields #[(Iz 64),(Iz 64),i1]),#[]⟩:Obj)]))))))
def S12(w:World)(os:OsState):SharedT:=⟨bt 12 (L12 w.params),110,{},#[],⟨0,0,0,0⟩,1195,os⟩
def L13(P:Params):List Obj:=LA P (o69 P) o70 (LS0 P (LS1 P (LS2 P (LS3 P (LS4 P ([o87,o88,o6,(⟨(.ref 100),(some 107),(.dict ⟨(TE 0 1067 [] 80)⟩ 80),#[]⟩:Obj),(⟨(.type qDy),none,(.fields #[(Iz 80),(Iz 48),i1]),#[]⟩:Obj)]))))))
def S13(w:World)(os:OsState):SharedT:=⟨bt 12 (L13 w.params),110,{},#[],⟨0,0,0,0⟩,1227,os⟩
def L14(P:Params):List Obj:=LA P (o69 P) o70 (LS0 P (LS1 P (LS2 P (LS3 P (LS4 P ([o87,o88,o6,(⟨(.ref 100),(some 107),(.dict ⟨(TE 0 1067 [] 96)⟩ 96),#[]⟩:Obj),(⟨(.type qDy),none,(.fields #[(Iz 96),(Iz 32),i1]),#[]⟩:Obj)]))))))
def S14(w:World)(os:OsState):SharedT:=⟨bt 12 (L14 w.params),110,{},#[],⟨0,0,0,0⟩,1259,os⟩
def L15(P:Params):List Obj:=LA P (o69 P) o70 (LS0 P (LS1 P (LS2 P (LS3 P (LS4 P ([o87,o88,o6,(⟨(.ref 100),(some 107),(.dict ⟨(TE 0 1067 [] 112)⟩ 112),#[]⟩:Obj),(⟨(.type qDy),none,(.fields #[(Iz 112),(Iz 16),i1]),#[]⟩:Obj)]))))))
def S15(w:World)(os:OsState):SharedT:=⟨bt 12 (L15 w.params),110,{},#[],⟨0,0,0,0⟩,1291,os⟩
def L16(P:Params):List Obj:=LA P (o69 P) o70 (LS0 P (LS1 P (LS2 P (LS3 P (LS4 P ([o87,o88,o6,(⟨(.ref 100),(some 107),(.dict ⟨(TE 0 1067 [] 128)⟩ 128),#[]⟩:Obj),qJm]))))))
def S16(w:World)(os:OsState):SharedT:=⟨bt 12 (L16 w.params),110,{},#[],⟨0,0,0,0⟩,1323,os⟩
def L17(P:Params):List Obj:=LA P (zGv P) o70 (LS0 P (LS1 P (LS2 P (LS3 P (LS4 P (o87::o88::o6::(⟨(.ref 100),(some 107),(.dict ⟨(TE 0 1067 [] 128)⟩ 128),#[]⟩:Obj)::qJm::[o7,qNk]))))))
def S17(w:World)(os:OsState):SharedT:=⟨bt 12 (L17 w.params),112,{},#[],⟨0,0,0,0⟩,1324,os⟩
def L18(P:Params):List Obj:=LA P (zGv P) (⟨.none,none,(.fields #[i2,i0,(.ref 37),(Iz 20),i0,(.ref 89),(Iz 25),i13,(.ref 115)]),#[]⟩:Obj) (LS0 P (LS1 P (LS2 P (LS3 P (LS4 P (o87::o88::o6::(⟨(.ref 100),(some 107),(.dict ⟨(TE 0 1067 (e0::(TE 41 1149 (e1::(TE 92 1251 (e2::(TE 124 1315 [] 4)) 31)) 50)) 40)⟩ 128),#[]⟩:Obj)::qJm::o7::qNk::LS5 P []))))))
def S18(w:World)(os:OsState):SharedT:=⟨bt 12 (L18 w.params),127,{},#[GenState.finished],⟨0,0,0,0⟩,1354,os⟩
def L19(P:Params):List Obj:=LA P (zGv P) (⟨.none,none,(.fields #[i2,i0,(.ref 37),(Iz 20),i0,(.ref 89),(Iz 25),i13,(.ref 115),(Iz 26),i13,(.ref 130)]),#[]⟩:Obj) (LS0 P (LS1 P (LS2 P (LS3 P (LS4 P (o87::o88::o6::(⟨(.ref 100),(some 107),(.dict ⟨(TE 0 1067 (e0::⟨(.ofNat 41),(Jz 41 1149),(Jz 41 1370)⟩::(TE 42 1151 (e1::⟨(.ofNat 92),(Jz 92 1251),(Jz 120 1066)⟩::⟨(.ofNat 93),(Jz 93 1253),(Jz 41 1382)⟩::(TE 94 1255 (e2::⟨(.ofNat 124),(Jz 124 1315),(Jz 120 1066)⟩::⟨(.ofNat 125),(Jz 125 1317),(Jz 41 1376)⟩::⟨(.ofNat 126),(Jz 126 1319),(Jz 120 1066)⟩::⟨(.ofNat 127),(Jz 127 1321),(Jz 120 1066)⟩::[]) 29)) 49)) 40)⟩ 128),#[]⟩:Obj)::qJm::o7::qNk::LS5 P (LS6 P [])))))))
def S19(w:World)(os:OsState):SharedT:=⟨bt 12 (L19 w.params),142,{},#[GenState.finished,GenState.finished],⟨0,0,0,0⟩,1384,os⟩
def L20(P:Params):List Obj:=LA P (zGv P) (⟨.none,none,(.fields #[i2,i0,(.ref 37),(Iz 20),i0,(.ref 89),(Iz 25),i13,(.ref 115),(Iz 26),i13,(.ref 130),(Iz 27),i13,(.ref 145)]),#[]⟩:Obj) (LS0 P (LS1 P (LS2 P (LS3 P (LS4 P (o87::o88::o6::zGu::qJm::o7::qNk::LS5 P (LS6 P (LS7 P []))))))))
def S20(w:World)(os:OsState):SharedT:=⟨bt 12 (L20 w.params),159,{},#[GenState.finished,GenState.finished,GenState.finished],⟨0,0,0,0⟩,1421,os⟩
def L21(P:Params):List Obj:=LA P (zRs P) (⟨.none,none,(.fields #[i2,i0,(.ref 37),(Iz 20),i0,(.ref 89),(Iz 25),i13,(.ref 115),(Iz 26),i13,(.ref 130),(Iz 27),i13,(.ref 145),(Iz 28),i0,(.ref 164)]),#[]⟩:Obj) (LS0 P (LS1 P (LS2 P (LS3 P (LS4 P (o87::o88::o6::zGu::qJm::o7::qNk::LS5 P (LS6 P (LS7 P (LS8 P [])))))))))
def S21(w:World)(os:OsState):SharedT:=⟨bt 12 (L21 w.params),271,{},#[GenState.finished,GenState.finished,GenState.finished],⟨0,0,0,0⟩,1605,os⟩
def L22(P:Params):List Obj:=LA P (zPi P) (⟨.none,none,(.fields #[i2,i0,(.ref 37),(Iz 20),i0,(.ref 89),(Iz 25),i13,(.ref 115),(Iz 26),i13,(.ref 130),(Iz 27),i13,(.ref 145),(Iz 28),i0,(.ref 164),(Iz 314),i0,(.ref 274),(Iz 319),i0,(.ref 279),(Iz 326),i0,(.ref 284)]),#[]⟩:Obj) (LS0 P (LS1 P (LS2 P (LS3 P (LS4 P (o87::o88::o6::zGu::qJm::o7::qNk::LS5 P (LS6 P (LS7 P (LS8 P (LS9 P []))))))))))
def S22(w:World)(os:OsState):SharedT:=⟨bt 12 (L22 w.params),286,{},#[GenState.finished,GenState.finished,GenState.finished],⟨0,0,0,0⟩,1625,os⟩
def L23(P:Params):List Obj:=LA P (zPi P) (⟨.none,none,(.fields #[i2,i0,(.ref 37),(Iz 20),i0,(.ref 89),(Iz 25),i13,(.ref 115),(Iz 26),i13,(.ref 130),(Iz 27),i13,(.ref 145),(Iz 28),i0,(.ref 164),(Iz 314),i0,(.ref 274),(Iz 319),i0,(.ref 279),(Iz 326),i0,(.ref 284)]),#[]⟩:Obj) (LS0 P (LS1 P (LS2 P (LS3 P (LS4 P (o87::o88::o6::zGu::qJm::o7::qNk::LS5 P (LS6 P (LS7 P (LS8 P (LS9 P []))))))))))
def S23(w:World)(os:OsState):SharedT:=⟨bt 12 (L23 w.params),286,{},#[GenState.finished,GenState.finished,GenState.finished],⟨0,0,0,0⟩,1625,os⟩
theorem bRq{P:World->Prop}(h:∀w:World,P (w.withFollow "special-get-raises" false):=by intro w;kernel_rfl)(k:∀w:World,P (w.withFollow "special-get-raises" true):=by intro w;kernel_rfl):∀w,P w:=byRow2 "special-get-raises" h k
def FRq(n:Nat)(S:World->OsState->SharedT)(l:List Stmt)(c:Pos)(T:World->OsState->SharedT)(d:Pos):Prop:=∀w:World,(λos=>tw10110043849684766642 tw14364793385576792824 pw_dm0167_06 w 28 (some (.ref 6)) 1 n (S w os) (xT l c))=λos=>some (.next,T w os,cE,d)
theorem PRq{n:Nat}{S T:World->OsState->SharedT}{l:List Stmt}{c d:Pos}(h:FRq n S l c T d)(w:World)(os:OsState):segRun treeTable pw_dm0167_06 w 28 (some (.ref 6)) 1 n (S w os).abs (piecesOf l env cE c [topFrame q])=some (.next,(T w os).abs,cE,d):=segRun_of ((by rw[kO,te10110043849684766642,te14364793385576792824]:_=tw10110043849684766642 tw14364793385576792824 pw_dm0167_06 w 28 (some (.ref 6)) 1 n (S w os) (xT l c)).trans (congrFun (h w) os))
theorem f0:FRq 383 S2 l0 ⟨0,0,0,0⟩ S3 ⟨7,0,7,10⟩:=λw=>by kernel_rfl
theorem f1:FRq 396 S3 l1 ⟨7,0,7,10⟩ S4 ⟨9,0,9,10⟩:=λw=>by kernel_rfl
theorem f2:FRq 281 S4 l2 ⟨9,0,9,10⟩ S5 ⟨12,0,12,10⟩:=λw=>by kernel_rfl
theorem f3:FRq 314 S5 l3 ⟨12,0,12,10⟩ S6 ⟨19,0,19,16⟩:=bRq
theorem f4:FRq 226 S6 l4 ⟨19,0,19,16⟩ S7 ⟨20,0,23,18⟩:=λw=>by kernel_rfl
def zE(w:World)(os:OsState):Thread:=match tw10295753902157049106 tw14364793385576792824 pw_dm0167_06 (World.withFollow w "special-get-raises" false) 28 (some (.ref 6)) 1 113 (S7 (World.withFollow w "special-get-raises" false) os) (xT l5 ⟨20,0,23,18⟩)with|some (_,t)=>t|none=>(xT l5 ⟨20,0,23,18⟩)
theorem zSl:∀w:World,(λos=>tw10295753902157049106 tw14364793385576792824 pw_dm0167_06 w 28 (some (.ref 6)) 1 113 (S7 w os) (xT l5 ⟨20,0,23,18⟩))=λos=>some ((S8 w os),zE w os):=bRq
variable(w:World)(os:OsState)
theorem zRo:segGo treeTable pw_dm0167_06 w 28 (some (.ref 6)) 1 113 (S7 w os).abs (piecesOf l5 env cE ⟨20,0,23,18⟩ [topFrame q])=some ((S8 w os).abs,zE w os):=segGo_of ((by rw[kO,te10295753902157049106,te14364793385576792824]:_=tw10295753902157049106 tw14364793385576792824 pw_dm0167_06 w 28 (some (.ref 6)) 1 113 (S7 w os) (xT l5 ⟨20,0,23,18⟩)).trans (congrFun (zSl w) os))
def GRq(S T:World->OsState->SharedT):Prop:=∀w:World,(λos=>tw10295753902157049106 tw14364793385576792824 pw_dm0167_06 w 28 (some (.ref 6)) 1 640 (S w os) (zE w os))=λos=>some (T w os,zE w os)
theorem HRq{S T:World->OsState->SharedT}(h:GRq S T)(w:World)(os:OsState):segGo treeTable pw_dm0167_06 w 28 (some (.ref 6)) 1 640 (S w os).abs (zE w os)=some ((T w os).abs,zE w os):=segGo_of ((by rw[te10295753902157049106,te14364793385576792824]:_=tw10295753902157049106 tw14364793385576792824 pw_dm0167_06 w 28 (some (.ref 6)) 1 640 (S w os) (zE w os)).trans (congrFun (h w) os))
theorem zSk:GRq S8 S9:=bRq
theorem zSj:GRq S9 S10:=bRq
theorem zSi:GRq S10 S11:=bRq
theorem zSh:GRq S11 S12:=bRq
theorem zSg:GRq S12 S13:=bRq
theorem zSf:GRq S13 S14:=bRq
theorem zSe:GRq S14 S15:=bRq
theorem zSd:GRq S15 S16:=bRq
theorem zSc:∀w:World,(λos=>tw10110043849684766642 tw14364793385576792824 pw_dm0167_06 w 28 (some (.ref 6)) 1 23 (S16 w os) (zE w os))=λos=>some (.next,(S17 w os),cE,⟨24,0,24,5⟩):=λw=>by kernel_rfl
theorem zRf:segRun treeTable pw_dm0167_06 w 28 (some (.ref 6)) 1 23 (S16 w os).abs (zE w os)=some (.next,(S17 w os).abs,cE,⟨24,0,24,5⟩):=segRun_of ((by rw[te10110043849684766642,te14364793385576792824]:_=tw10110043849684766642 tw14364793385576792824 pw_dm0167_06 w 28 (some (.ref 6)) 1 23 (S16 w os) (zE w os)).trans (congrFun (zSc w) os))
theorem p5:segRun treeTable pw_dm0167_06 w 28 (some (.ref 6)) 1 (113+(640+(640+(640+(640+(640+(640+(640+(640+23))))))))) (S7 w os).abs (piecesOf l5 env cE ⟨20,0,23,18⟩ [topFrame q])=some (.next,(S17 w os).abs,cE,⟨24,0,24,5⟩):=seg_go (zRo w os) (seg_go (HRq zSk w os) (seg_go (HRq zSj w os) (seg_go (HRq zSi w os) (seg_go (HRq zSh w os) (seg_go (HRq zSg w os) (seg_go (HRq zSf w os) (seg_go (HRq zSe w os) (seg_go (HRq zSd w os) (zRf w os)))))))))
theorem f6:FRq 367 S17 l6 ⟨24,0,24,5⟩ S18 ⟨25,0,25,49⟩:=(byRow2 "comprehension-iter-twice" bRq bRq)
theorem f7:FRq 367 S18 l7 ⟨25,0,25,49⟩ S19 ⟨26,0,26,49⟩:=(byRow2 "comprehension-iter-twice" bRq bRq)
theorem f8:FRq 522 S19 l8 ⟨26,0,26,49⟩ S20 ⟨27,0,27,52⟩:=(byRow2 "comprehension-iter-twice" bRq bRq)
theorem f9:FRq 690 S20 l9 ⟨27,0,27,52⟩ S21 ⟨28,0,312,35⟩:=λw=>by kernel_rfl
theorem f10:FRq 88 S21 l10 ⟨28,0,312,35⟩ S22 ⟨326,0,354,15⟩:=λw=>by kernel_rfl
theorem fpre:∀w:World,(λos=>tw15667345088766844465 tw14364793385576792824 pw_dm0167_06 w 28 (some (.ref 6)) 12 (S0 w os).abs (topStub pw_dm0167_06))=λos=>some ((S1 w os).abs,⟨tw11892475500146522536 tw14364793385576792824 cE,cE,⟨0,0,0,0⟩,[topFrame q]⟩):=λw=>by kernel_rfl
theorem fblock:∀w:World,(λos=>tw14374325043358763698 tw14364793385576792824 pw_dm0167_06 w 28 (some (.ref 6)) 1 1 (S1 w os).abs (⟨PySem.Sem.wrap (λ_=>doneF .next) deadEnd id id (tw1066825118222455980 bE env),cE,⟨0,0,0,0⟩,[topFrame q]⟩))=λos=>some (.next,(S2 w os).abs,cE,⟨0,0,0,0⟩):=λw=>by kernel_rfl
theorem ffin:∀w:World,(λos=>tw14082659384304107361 tw14364793385576792824 pw_dm0167_06 w 28 (some (.ref 6)) 2 (S22 w os).abs (⟨doneF .next,cE,⟨326,0,354,15⟩,[topFrame q]⟩))=λos=>some ((S23 w os).abs):=λw=>by kernel_rfl
noncomputable def kAs:List Addr:=[2,3,32,34,35,37,38,42,43,47,48,52,53,57,58,62,63,67,68,72,73,78,79,80,81,82,83,84,91,93,94,96,97,98,99,100,101,102,107,108,166,168,169,171,172,173,175,176,178,179,180,182,183,185,186,187,189,190,192,193,194,196,197,199,200,201,203,204,206,207,208,210,211,213,214,215,217,218,220,221,222,224,225,227,228,229,231,232,234,235,236,238,239,241,242,243,245,246,248,249,250,252,253,255,256,257,259,260,262,263,264,265,266,267,268,271,274,275,276,279,280,281,284,285]
def atO:List Obj->Nat->Obj
 | [],_=>o7
 |x::_,0=>x
 |_::t,n+1=>atO t n
def K(P:Params):Frag:=kAs.map λa=>(a,atO (L23 P) a)
noncomputable def qv:Program:=view pw_dm0167_06 [0,1,3,4,5,6,7,8,9,10,11,12,13,14,15,16,17,18,22,24,25,26]
def loose:List Str:=[qZm,qZl,qZk,qZj,qZi,qZh,qZg,qTv,qTu,qTt,qTs,qTr,qZf,qZe,qZd,qZc,qZb,qZa,qYz]
def lv:List (Str×WData):=[(qTv,WData.int 0),(qTu,WData.int 1),(qTt,WData.int 2),(qTs,WData.int 3),(qTr,WData.int 4)]
theorem ppre:topGo treeTable pw_dm0167_06 w 28 (some (.ref 6)) 12 (S0 w os).abs (topStub pw_dm0167_06)=some ((S1 w os).abs,⟨denote treeTable (.body bE env),cE,⟨0,0,0,0⟩,[topFrame q]⟩):=by rw[te15667345088766844465,te11892475500146522536,te14364793385576792824];exact congrFun (fpre w) os
theorem pblock:segRun treeTable pw_dm0167_06 w 28 (some (.ref 6)) 1 1 (S1 w os).abs (blockOf bE env cE ⟨0,0,0,0⟩ [topFrame q])=some (.next,(S2 w os).abs,cE,⟨0,0,0,0⟩):=by show segRun treeTable pw_dm0167_06 w 28 (some (.ref 6)) 1 1 (S1 w os).abs (⟨(blockStart bE env).wrap (λ_=>doneF .next) deadEnd id id,cE,⟨0,0,0,0⟩,[topFrame q]⟩)=_;rw[te14374325043358763698,te1066825118222455980,te14364793385576792824];exact congrFun (fblock w) os
theorem pfin:topRun treeTable pw_dm0167_06 w 28 (some (.ref 6)) 2 (S22 w os).abs ⟨doneF .next,cE,⟨326,0,354,15⟩,[topFrame q]⟩=some (S23 w os).abs:=by rw[te14082659384304107361,te14364793385576792824];exact congrFun (ffin w) os
theorem run:topRun treeTable pw_dm0167_06 w 28 (some (.ref 6)) (12+(1+(383+(396+(281+(314+(226+((113+(640+(640+(640+(640+(640+(640+(640+(640+23)))))))))+(367+(367+(522+(690+(88+2))))))))))))) (S0 w os).abs (topStub pw_dm0167_06)=some (S23 w os).abs:=by have u:=piece_nil (env:=env) (pfin w os);have D:=piece_app (rest:=([]:List Stmt)) (PRq f10 w os) u;have T:=piece_app (rest:=(l10++([]:List Stmt))) (PRq f9 w os) D;have L:=piece_app (rest:=(l9++(l10++([]:List Stmt)))) (PRq f8 w os) T;have O:=piece_app (rest:=(l8++(l9++(l10++([]:List Stmt))))) (PRq f7 w os) L;have N:=piece_app (rest:=(l7++(l8++(l9++(l10++([]:List Stmt)))))) (PRq f6 w os) O;have V:=piece_app (rest:=(l6++(l7++(l8++(l9++(l10++([]:List Stmt))))))) (p5 w os) N;have U:=piece_app (rest:=(l5++(l6++(l7++(l8++(l9++(l10++([]:List Stmt)))))))) (PRq f4 w os) V;have F:=piece_app (rest:=(l4++(l5++(l6++(l7++(l8++(l9++(l10++([]:List Stmt))))))))) (PRq f3 w os) U;have S:=piece_app (rest:=(l3++(l4++(l5++(l6++(l7++(l8++(l9++(l10++([]:List Stmt)))))))))) (PRq f2 w os) F;have I:=piece_app (rest:=(l2++(l3++(l4++(l5++(l6++(l7++(l8++(l9++(l10++([]:List Stmt))))))))))) (PRq f1 w os) S;have J:=piece_app (rest:=(l1++(l2++(l3++(l4++(l5++(l6++(l7++(l8++(l9++(l10++([]:List Stmt)))))))))))) (PRq f0 w os) I;exact go_top (ppre w os) (piece_block (pblock w os) J)
noncomputable def H0(P:Params):Heap:=absHeap (bt 12 (L0 P)) 28 {}
def HE(P:Params):Heap:=absHeap (bt 12 ([(o0 P),(o1 P),(o2 P),(o3 P),o4,o5,o6,o7,o8,o9,o10,(zRp P),o12,(o13 P),o14,o7,o15,o16,o17,o18,(o19 P),(o20 P),o21,o22,o23,o24,o25,o26])) 28 {}
def H1(P:Params):Heap:=absHeap (bt 12 (L23 P)) 286 {}
theorem fopen:∀w:World,tw10274390034422433532 tw14364793385576792824 (opening pw_dm0167_06) w 799 (tw1435165496053646825 (opening pw_dm0167_06)).1 (tw1435165496053646825 (opening pw_dm0167_06)).2=some ⟨HE w.params,#[],⟨0,0,0,0⟩,276,(tw1435165496053646825 (opening pw_dm0167_06)).1.os⟩:=λw=>by kernel_rfl
theorem ffence:∀w:World,(λos=>(tw14289696077712309145 pw_dm0167_06 ⟨HE w.params,#[],⟨0,0,0,0⟩,276,os⟩).map (λs=>(s.heap,s.gens,s.drawn,s.toks)))=λ_=>some (H0 w.params,#[],⟨0,0,0,0⟩,276):=λw=>by kernel_rfl
theorem popen:∀w:World,(fencedOpening treeTable pw_dm0167_06 w 40000).map (λs=>(s.heap,s.gens,s.drawn,s.toks))=some (H0 w.params,#[],⟨0,0,0,0⟩,276):=
 open_cut (M:=799) (He:=HE) (ge:=#[]) (de:=⟨0,0,0,0⟩) (ke:=276) (λw=>by
  rw[te10274390034422433532,te1435165496053646825,te14364793385576792824]
  exact fopen w) rfl (λw=>by
  rw[te14289696077712309145]
  exact ffence w)
theorem psize:∀w:World,((H0 w.params).isNs mainGlobals&&((#[]:Array GenState)).size==0,(H0 w.params).objs.size,(H0 w.params).nsMap mainGlobals "__annotations__")=(true,28,((some (.ref 6)):Option Value)):=λw=>by
 rw[te8920871248978507458]
 kernel_rfl
def Xt(s:Shared):Bool:=xlAt qv lv s&&recOk (RowW.records (OpenRow.toRowW PySem.Challenge.rw_dm0167_06.row)) s
noncomputable def Yf(s:Shared):List (Option Obj):=kAs.map s.heap.get?
def Ya(w:World):List (Option Obj):=(K w.params).map λp=>some p.2
theorem zPp:(staticsOk (importedModules pw_dm0167_06.main.body) (H0 w.params) (H1 w.params)&&namesBound pw_dm0167_06 (H1 w.params)&&gensDone ⟨H1 w.params,#[GenState.finished,GenState.finished,GenState.finished],⟨0,0,0,0⟩,1625,os⟩&&laidKept (H0 w.params) (H1 w.params)):=by rw[te5923862056798008813];kernel_rfl
theorem zPo:openSeen qv loose (importedModules pw_dm0167_06.main.body) Xt false ⟨H1 w.params,#[GenState.finished,GenState.finished,GenState.finished],⟨0,0,0,0⟩,1625,os⟩=openGood qv loose:=by rw[te4187177175401517315,te5923862056798008813];kernel_rfl
theorem zPn:Yf ⟨H1 w.params,#[GenState.finished,GenState.finished,GenState.finished],⟨0,0,0,0⟩,1625,os⟩=Ya w:=by kernel_rfl
theorem left:LeftO pw_dm0167_06 qv loose Xt Yf Ya 40000 false:=LeftO.of_pieces (H₀:=H0) (H₁:=H1) (m₀:=28) (ann:=(some (.ref 6))) popen psize run (by decide) (λw=>funext λos=>looks_pair (zPp w os) (looks_pair (zPo w os) (zPn w os)))
theorem kE:∀P:Params,kAs=(K P).map (·.1):=λ_=>by kernel_rfl
theorem hwit:(OpenRow.toRowW PySem.Challenge.rw_dm0167_06.row).promised:=by w_witness2
def hd:=λwalk=>zPt (holds_openN (r:=PySem.Challenge.rw_dm0167_06.row) (q:=qv) (loose:=loose) (Xt:=Xt) (XP:=XL qv lv) (Yf:=Hook.obs (kHook K kAs kE)) (Ya:=Hook.val (kHook K kAs kE)) (YP:=Hook.says (kHook K kAs kE)) (N:=40000) left (Hook.of (kHook K kAs kE)) (Hook.keeps (kHook K kAs kE)) (λs e=>xl_of s (Bool.and_eq_true_iff.mp e).1) XL.keeps (by rfl) (by rfl) (by rfl) (λs e=>recFacts_of (Bool.and_eq_true_iff.mp e).2) (by rfl) (by decide +kernel) (by decide +kernel) ⟨rfl,rfl,rfl,rfl,rfl,by decide +kernel⟩ hwit walk)
end MineTop
open Option.some renaming inj→b5,injEq→rI
open _root_ renaming if_neg→b6,if_pos→d3,absurd→d9,decide_eq_true→e9,congrArg→g0,of_decide_eq_true→j6,decide_eq_false→k9,decide_eq_true_eq→n8,of_decide_eq_false→w5,beq_iff_eq→w6,beq_self_eq_true→gE,beq_eq_false_iff_ne→gT,decide_eq_false_iff_not→lF,ne_true_of_eq_false→mO,bne_iff_ne→oX
open Nat renaming le_trans→b7,add_le_add_left→e6,lt_of_lt_of_le→g9,le_refl→i5,add_assoc→i7,add_right_comm→i8,lt_of_le_of_lt→i9,le_succ_of_le→m3,le_of_succ_le→m4,add_le_add_right→m5,add_comm→m7,le_of_lt→m9,ne_of_lt→n3,mul_le_mul_left→n4,le_add_right→n5,succ_le_succ→n9,pos_of_ne_zero→r6,le_of_succ_le_succ→r7,lt_succ_self→s9,le_add_left→t4,add_le_add→u2,zero_le→v0,le_of_eq→v6,lt_succ_of_le→v7,add_sub_cancel_left→w7,lt_add_of_pos_right→w8,le_of_lt_succ→bO,min_eq_left→bQ,not_succ_le_zero→bY,not_lt_zero→dD,ne_of_gt→dO,le_of_add_right_le→dP,add_sub_of_le→dR,add_sub_cancel'→dT,lt_succ_of_lt→dU,min_eq_right→dX,lt_of_succ_lt_succ→dZ,le_succ→eM,succ_pos→eQ,le_antisymm→eW,sub_eq_zero_of_le→eZ,sub_add_cancel→fA,lt_of_le_of_ne→fB,le_sub_one_of_lt→fF,le_sub_of_add_le→fG,mul_le_mul_right→fH,zero_add→fJ,lt_of_succ_lt→fO,lt_irrefl→fP,min_le_right→gB,le_of_not_le→gG,sub_le→gH,add_sub_cancel→gI,add_sub_add_right→gJ,add_left_cancel→gR,sub_self→gU,sub_lt→gW,lt_of_sub_eq_succ→gZ,add_sub_assoc→hH,sub_lt_left_of_lt_add→iQ,lt_of_lt_of_eq→iZ,min_le_left→lE,sub_add_eq→lK,le_sub_iff_add_le'→lL,add_pos_right→lM,succ_le_of_lt→lN,le_sub_of_add_le'→lU,le_of_add_left_le→lV,add_lt_of_lt_sub→mE,add_lt_add_left→mN,lt_trans→mT,lt_of_add_lt_add_left→nL,sub_pos_of_lt→nP,succ_pred_eq_of_pos→oH,add_zero→oJ,lt_add_of_pos_left→oT,sub_ne_zero_of_lt→pF,le_of_sub_eq_zero→pG,succ→pL,one_pos→pM,le_total→rG,succ_sub→rL,sub_zero→rM
open PySem renaming wpAny_bind→d8,Shared→g6,wpAny_pure→g7,sizeLine→j0,Value→j7,wpAny_mono→j9,wpAny_holding→r9,builtinLookup_eq_fast→w3,Around→w4,wpAny_of_eq→cB,NameKind→dE,wpAny_assign_Name→dI,Params→dQ,typeLookup_type→dV,typeIs_str→eG,mainGlobals→eJ,wpAny_standAt→eL,DictEntry→eV,wpAny_newObj_type→fQ,builtinsNs→fV,Builtin→gA,wpAny_storeName_local→gK,wpAny_Assign_Name→iA,isSubtype_type→iC,wpAny_load→iD,wpAny_loadName_local→iH,wpAny_call_entry→iN,Program→iY,sizeLine_eq→lG,entryFor_of_tree→lZ,codeAny_call_builtin→mH,wpAny_call→mX,getMethod_builtin→nS,Heap→nZ,wpAny_isInstance→oK,wpAny_execs_cons→oM,wpAny_items_cons→oO,codeAny_mono→oY,call_meets→oZ,wpAny_ite_false→pC,Keyword→pU,wpAny_rule→rA,wpAny_Name→rE
open List renaming length_cons→g5,length_append→g8,lookup→k8,length_map→m8,suffix_cons→n6,getLast?_eq_some_getLast→r5,getD_eq_getElem?_getD→r8,size_toArray→s8,length_drop→t3,append_assoc→u3,getElem?_eq_getElem→u8,takeWhile_append_dropWhile→u9,dropWhile_cons→v1,length_singleton→v8,length_take→w9,drop_suffix→bD,dropLast_concat_getLast→bF,suffix_refl→bP,takeWhile_cons→cC,getElem?_append_right→dG,drop_eq_getElem_cons→dM,all_cons→dS,getLast?_eq_getElem?→eE,append_nil→eF,take_of_length_le→eI,dropWhile_suffix→eK,prefix_refl→eP,take_succ_cons→eR,exists_cons_of_ne_nil→eT,map_append→fD,range'→fN,map_cons→fX,length_replicate→gC,take_append_drop→gD,getLast?_concat→gL,mem_of_mem_drop→gM,mem_of_mem_take→gO,count_append→gP,replicate_succ→gS,eq_nil_of_length_eq_zero→gV,count_cons_self→gY,drop_eq_nil_of_le→hP,getElem?_append_left→iB,mapM_cons→iF,length_dropLast→iI,map_map→iL,mem_append_right→iM,lookup_cons→iO,getElem_mem→iP,getElem?_drop→iU,eq_of_mem_replicate→iX,all_eq_true→lB,cons_ne_nil→lC,drop_drop→lD,pairwise_lt_range'→lI,drop_of_length_le→lQ,takeWhile_sublist→lS,filterMap_eq_map'→lT,dropLast_eq_take→lW,concat_eq_append→lX,drop_zero→lY,take_nil→mC,getLast?_append→mJ,mem_of_getLast?→mK,mem_append_left→mL,dropLast_subset→mM,map_congr_left→mP,getElem?_map→mR,forIn_cons→mW,prefix_append→nH,drop_left→nJ,take_left→nK,drop_sublist→nQ,map_id→nU,getLast?_map→nV,flatten_cons→nW,zip_cons_cons→nX,filterMap_cons_some→oA,getLast_mem→oQ,pairwise_singleton→oR,take_sublist→oV,foldl_cons→pB,mem_append→pE,count_cons_of_ne→pK,mem_cons→pN,take_zero→pR,count_le_length→pS,mem_of_getElem?→pT,drop_nil→pX,map_take→pZ,range→rD
open Array renaming length_toList→h9,getElem?_toList→aV,eq_empty_of_size_eq_zero→dY,getElem?_eq_getElem→eY,getD_eq_getD_getElem?→fZ,toList_append→mB,size_append→mF,toList_push→mG,getElem?_eq_none_iff→nB
open Bool renaming and_eq_true→i6,or_eq_true→eS,not_eq_true'→fE,not_eq_true→gF,or_eq_false_iff→iG,false_and→nE,false_eq_true→nY,and_true→oB,true_and→pY
open PySem.Builtin.Range renaming rangeSize→j5,rangeFitsLong→mU
open PySem.Unicode renaming isSpace→j8
open PySem.Txt renaming contains→m6,find3→dF,replace→dJ,split→mV,join→nF
open Option renaming bind_some→n7,map_some→iV
open List.cons renaming inj→t9,injEq→rP
open Int renaming natCast_nonneg→u0,toNat_natCast→dH,le_trans→iK,lt_of_le_of_lt→lA,le_refl→mI,le_sub_left_of_add_le→nM,lt_irrefl→oG,max_eq_right→oP,add_comm→oS,add_zero→oU
open PySem.Sre.M renaming runFor→v3,word→mA,afterRun→rB
open PySem.Sre renaming Frame→v9,Loop→mY
open PySem.PyData renaming strOk→bS,eqv→gQ,list→nT,depthAll→pA,keyHash→pP
open PySem.Heap renaming get?_push_of_some→bW,get?_push_size→eH,get?_none_of_le→fM,size_push→lO,SameBut→lP,get?_update_self→pH,lt_size→rJ
open PySem.Builtin.Str renaming occurrences→eO,strSliceIndices→fY,lastOccurrence→iE,tooLong→iT,strKind→pW
open LawfulBEq renaming eq_of_beq→eU
open Classical renaming byContradiction→eX
open Ne renaming symm→fR
open ForInStep renaming yield→fU
open Eq renaming symm→gN
open PySem.F renaming slot_str_split→gX,args_str_split_2→iW,entry_str_split→lH,slot_str_expandtabs→mS,type_list_append→nG,entry_list_append→nO,slot_list_append→oE,slot_str_rfind→oW,slot_str_join→pI,slot_str_find→pJ
open Nat.le renaming intro→iJ
open PySem.Manifest renaming signature?→iR
open PySem.Heap.SameBut renaming update→iS
open PySem.MeetsSeq2 renaming wpAny_forIn_array→lJ
open List.Sublist renaming length_le→lR
open PySem.Expr renaming Constant→mD,Name→pV
open Nat.succ renaming inj→mQ
open PySem.Calls renaming Constant_str→mZ
open Decidable renaming byContradiction→nN
open PySem.Value renaming isInt→nR
open PySem.StrLaws renaming partsBetween_eq→pD
open PySem.GM renaming noRef→pO
open PySem.Str renaming join→pQ
open Nat.ToInt renaming of_diseq→rF,of_le→rO
open PyProof.Rows renaming tail_any→rH
open PySem.W renaming listOf→rK
open PySem.DictEntry renaming refKey→rN
namespace Mine.Lake
theorem px{β:Type _}{o:Option α}{f:α->Option β}{b:β}{G:Prop}(h:o.bind f=some b)(k:∀a,o=some a->f a=some b->G):G:=(Option.bind_eq_some_iff.mp h).elim λa h=>k a h.1 h.2
theorem qa{β:Type _}{o:Option α}{f:α->β}{b:β}{G:Prop}(h:o.map f=some b)(k:∀a,o=some a->f a=b->G):G:=(Option.map_eq_some_iff.mp h).elim λa h=>k a h.1 h.2
theorem pz{β:Type _}{o:Option α}{f:α->Option β}{b:β}(h:o.bind f=some b):∃a,o=some a/\f a=some b:=Option.bind_eq_some_iff.mp h
theorem qb{β:Type _}{o:Option α}{f:α->β}{b:β}(h:o.map f=some b):∃a,o=some a/\f a=b:=Option.map_eq_some_iff.mp h
theorem pw[Decidable p](h:decide p=true:=by kernel_rfl):p:=of_decide_eq_true h
theorem pi{p:Prop}(h:p:=by decide):p:=h
theorem gc{a b:Nat}:a<=b+(a-b):=Nat.sub_le_iff_le_add'.mp (i5 _)
theorem gf{a b:Nat}:(max 0 (min (-(b:Int)+a) a)).toNat=a-b:=by rw[oS,<- Int.sub_eq_add_neg,Int.min_eq_left (Int.sub_le_self _ (u0 b)),Int.max_comm,<- Int.toNat_eq_max,dH,Int.toNat_sub]
theorem gg:¬2*a+3=0:=dO (t4 (pL 0) (2*a+2))
theorem gh:2+(1+a)=1+(1+a)+1:=gN (i8 1 (1+a) 1)
theorem gi{a b:Nat}(u:a<=b):¬(0:Int)>(b:Int)-(a:Int):=Int.not_lt.mpr (Int.sub_nonneg.mpr (Int.ofNat_le.mpr u))
theorem gj(u:a<4294967295):a-b<=4294967295:=b7 (gH _ _) (m9 u)
theorem gk{a b c:Nat}(u:¬a+b<=c):c-a<=b:=Nat.sub_le_iff_le_add'.mpr (m9 (Nat.not_le.mp u))
theorem gm(u:a<b):a<c+(b+1-c):=g9 (dU u) gc
theorem dr(u:a+1<=b):b=b-1+1:=(fA (b7 (t4 1 a) u)).symm
theorem gn{a b:Nat}(u:a=b+1):(a:Int)-1=(b:Int):=Int.sub_eq_iff_eq_add.mpr (g0 Nat.cast u)
theorem gq:a+1≠a+2:=n3 (s9 (a+1))
theorem dt(u:a<=b):b+1-(a+1)<b+1-a:=by rw[gJ,Nat.sub_add_comm u];exact s9 _
theorem gr(D:a+20*b+200<c)(u:d<=8):a+1+min e d<c:=i9 (b7 (e6 (b7 (gB e d) u) (a+1)) (by rw[i7,i7];exact e6 (b7 pi (t4 200 (20*b))) a)) D
theorem gs{a c:Nat}(u:(a:Int)=max 0 (min B (c:Int))):a<=c:=Int.ofNat_le.mp (by rw[u];exact Int.max_le.mpr ⟨u0 c,Int.min_le_right _ _⟩)
theorem gu(u:¬4<=a):4=a+(4-a):=(dR (m9 (Nat.not_le.mp u))).symm
theorem gv(u:4<a):a=4+(a-4):=(dR (m9 u)).symm
theorem gw:a+1≠0:=dO (t4 (pL 0) a)
theorem cj{a:Nat}(h:0<a):(a:Int)-1=((a-1:Nat):Int):=(Int.ofNat_sub h).symm
theorem gx{a b:Nat}(u:a<=1000)(D:b<a):(b:Int)<=1000:=Int.ofNat_le.mpr (b7 (m9 D) u)
theorem gy(u:min (a+1) (b+1)=a+1):a<=b:=r7 (b7 (v6 u.symm) (gB (a+1) (b+1)))
theorem gz(D:a<=b)(u:b+1+c=d):c+1+a<=d:=b7 (v6 (m7 (c+1) a)) (b7 (m5 D (c+1)) (v6 ((i8 b 1 c).symm.trans u)))
theorem du(F:a<=1000)(D:b<=c+1)(u:c<a):b<=2000:=b7 D (b7 u (b7 F pi))
theorem ig(u:a<=b+1):a<=b+c+1:=b7 u (n9 (n5 b c))
theorem ij(I:a<b+1)(F:c+a=d)(D:e+b.succ=d)(u:c<=e):False:=d9 (F.trans D.symm) (n3 (v7 (u2 u (bO I))))
theorem ik(F:a<=1000)(D:b<=a)(u:c<=b+1):c<=1001:=b7 u (n9 (b7 D F))
theorem im{a:Nat}(u:a≠0):-1+(a:Int)=((a-1:Nat):Int):=(oS _ _).trans (cj (r6 u))
theorem io{a b:Nat}(u:a=b+1):-1+(a:Int)=(b:Int):=by subst u;exact(oS _ _).trans (cj (eQ b))
theorem ip{b:Nat}{A:Int}(u:A.toNat<=b):A-(b:Int)<=0:=Int.sub_nonpos_of_le (Int.toNat_le.mp u)
theorem iq(u:a+10*(b+1)+100<c):a<c:=i9 (b7 (n5 _ _) (n5 _ _)) u
theorem ir(u:a+20*(b+1)+200<c):a+3+20*b+200<c:=i9 (m5 (by rw[i7,m7 3];exact e6 (e6 pi _) a) 200) u
theorem iu(u:a+10*(b+1)+100<c):a+1+10*b+100<c:=i9 (m5 (by rw[i7,m7 1];exact e6 (e6 pi _) a) 100) u
theorem iv(F:a<=100)(D:b<=c+1)(u:c=a):b<=16777216+1:=b7 D (n9 (u▸b7 F pi))
theorem ix(D:a+1<=b)(u:c+20*b+200<d):c+1+20*a+200<d:=i9 (m5 (by rw[i7,m7 1];exact e6 (b7 (e6 pi _) (n4 20 D)) c) 200) u
theorem iy(D:a+1<=b)(u:c+10*b+100<d):c+1+10*a+100<d:=i9 (m5 (by rw[i7,m7 1];exact e6 (b7 (e6 pi _) (n4 10 D)) c) 100) u
theorem iz(u:a<=20):4+3+20*a+200<9900:=i9 (m5 (e6 (n4 20 u) _) 200) pi
theorem jc(D:a<=20)(u:1+b+1+10*20+100<c):1+b+1+10*a+100<c:=i9 (m5 (e6 (n4 10 D) _) 100) u
theorem jd(D:a<=1)(u:b<=c):a+b<=c+1:=m7 a b▸u2 u D
theorem je(u:a<=1000)(D:b<=(a+1)*1):a+b<=16777216:=b7 (u2 u (b7 D (fH 1 (n9 u)))) pi
theorem jg(D:a<=4*(b+1))(u:4<a):1<=b:=r6 λq=>by subst q;exact Nat.not_lt.mpr D u
theorem jh(F:a<=b)(D:c=d+(e+1))(u:c=a):d<=b:=b7 (n5 d (e+1)) (b7 (v6 (D.symm.trans u)) F)
theorem ji:(max 0 (min (-1+((a+1:Nat):Int)) ((a+1:Nat):Int))).toNat=a:=gf (a:=a+1) (b:=1)
theorem bk{a b c:Nat}(h:a<b)(k:b<=c:=by decide):a<=c:=b7 (m9 h) k
theorem bj{a b c:Nat}(h:a<=b)(k:b<=c:=by decide):a<=c:=b7 h k
theorem bx(h:a<=b)(k:b+1<=c:=by decide):a+1<=c:=b7 (n9 h) k
theorem cz{a b c d:Nat}(h:a<b)(k:b<=c:=by decide):a-d<c:=i9 (gH _ _) (g9 h k)
theorem cp(h:a+5*b+50<6000)(i:k<=50:=by decide):a+k<6000:=i9 (u2 (n5 a _) i) h
theorem di(F:a+(b+1)=c)(D:d<=b+1)(u:e=b+1-d):f+a+d+e<=f+c:=by rw[u,i7,dT D,i7,F];exact i5 _
theorem df(D:0<a)(u:b<=2*c+1):b+1+1<=2*(c+a)+1:=n9 (b7 (n9 u) (n4 2 (e6 D c)))
theorem dj(F:a<b-1)(D:b-1=c+(d-1))(u:a=c+e):e+1<d:=mE (nL (show c+e<c+(d-1)by rw[<- u,<- D];exact F))
theorem dv{a b c d:Nat}(D:a+b=c)(u:d<=b):d<=c-a:=lU (by rw[<- D];exact e6 u a)
theorem bq{a b c:Nat}(h:a+b=c):b<=c:=lV (v6 h)
theorem dk{a b c:Nat}(h:min a b=c):c<=b:=b7 (v6 h.symm) (gB _ _)
theorem jk{a b:Nat}(u:a<=b):¬(0:Int)>(b:Int)-(a:Int):=Int.not_lt.mpr (Int.sub_nonneg_of_le (Int.ofNat_le.mpr u))
theorem jl(u:-1<=A):¬A+1<0:=Int.not_lt.mpr (Int.add_le_add_right u 1)
theorem dx(u:a<b):b-a=b-a-1+1:=(fA (nP u)).symm
theorem dy(u:a-b=c+1):a-(b+1)=c:=by rw[lK,u];rfl
theorem jm(D:a<=b)(u:c+1<=a):a-1<b:=g9 (Nat.sub_one_lt_of_lt u) D
theorem jn(u:a+1<=b):b-(a+1)+a=b-1:=by rw[m7 a 1,lK];exact fA (fF u)
theorem jo:a-(b+1)+c=a-1-b+c:=by rw[m7 b,lK]
theorem jp{a b:Nat}(u:a<b):¬(1:Int)>(b:Int)-(a:Int):=Int.not_lt.mpr (nM (Int.ofNat_le.mpr u))
theorem jq:a+1+20+1<=a+30*b+26:=show a+22<=_ from u2 (n5 _ _) pi
theorem dz{a:Nat}(u:¬a=0):(a:Int)-1=((a-1:Nat):Int):=cj (r6 u)
theorem ed(u:a<=2000)(D:b=16777216):a+1<=b:=by subst D;exact bx u
theorem jr{a:Nat}(u:¬(a=0\/a>1000)):(a:Int)-1=((a-1:Nat):Int):=cj (r6 λq=>u (.inl q))
theorem jt(u:a<=b+1):a<=b+1+c+1:=b7 u (n5 _ (c+1))
theorem ju(D:a+1+b=c)(u:min 3 (a+1)=3):b+1+2<=c:=by rw[<- D,m7 (a+1)];exact e6 (dk u) b
theorem jv(u:a<=1001)(D:b=16777216):a+1<=b:=by subst D;exact bx u
theorem jx{a b:Nat}(u:a=b+1):(b:Int)<(a:Int):=Int.ofNat_lt.mpr (by rw[u];exact s9 b)
theorem jy(u:a<=1000)(D:b+1<a):b<=1000:=b7 (m4 (m9 D)) u
theorem jz(D:a+1+b=a+1+c+1)(u:b<=d):c<=d:=m4 (b7 (v6 (gR (show a+1+(c+1)=a+1+b from D.symm))) u)
theorem ef:a<=a+1+b:=m9 (n5 a.succ b)
theorem ka(F:a<300)(D:b+c=d)(u:d<=a):c<1000:=i9 (b7 (bq D) u) (bj F)
theorem kb(D:0<a)(u:b<=c):b<=c+a-1:=fG (u2 u D)
theorem kc(u:0<a)(D:a<=b):c+a-1<c+b:=by rw[hH u];exact mN (g9 (gW u pi) D) c
theorem kf(F:a<b+1)(D:a-(c+1)=d)(u:a=c+(e+1)):d<b:=by subst u D;exact g9 (gW (eQ _) (eQ c)) (bO F)
theorem kg(F:a-(b+1)=c)(D:a=b+(d+1))(u:e<f+b+1+c):e<f+a:=iZ u (by rw[<- F,i7 f,i7 f,dT (by rw[D];exact e6 (t4 1 d) b)])
theorem ki(u:0<a):((b+c+a:Nat):Int)-1=((b+(c+a-1):Nat):Int):=by rw[cj (lM _ u),i7,hH (lM c u)]
theorem kj{a b c d:Nat}(D:a<b)(u:min a b=c+d):c+d=a:=u.symm.trans (bQ (m9 D))
theorem kk(F:a<b)(D:c+d=a)(u:b-c=0):False:=fP _ (g9 F (b7 (pG u) (iJ D)))
theorem kl{a b c:Nat}:min (a-b) (c-b)<=c:=b7 (gB _ _) (gH _ _)
theorem km{a b c:Nat}(u:a<=b):c+a+(b-a)=c+b:=by rw[i7,dT u]
theorem eg{a b c d:Nat}(D:a<b)(u:c+d=a):c<=b:=b7 (iJ u) (m9 D)
theorem kn(F:a<b)(D:0<c)(u:d=a+1-c):d<b:=by rw[u];exact g9 (gW (eQ a) D) F
theorem ko:a<a+(b+1):=v7 (n5 a b)
theorem kp{a b c d e:Nat}(F:a<=b)(D:c+b=d)(u:d<=e):c+a<=e:=b7 (e6 F c) (by rw[D];exact u)
theorem kq(F:a+b=c)(D:0<b)(u:d=c):a-1<d:=i9 (gH _ _) (by rw[u,<- F];exact w8 D)
theorem kr(u:¬a=0):((a+0:Nat):Int)-1=((a-1:Nat):Int):=cj (r6 u)
theorem kt(u:a+b=c):a-1<=c:=b7 (gH _ _) (iJ u)
theorem ku:¬((a+(b+1):Nat):Int)=0:=λq=>Nat.succ_ne_zero _ (Int.ofNat.inj q)
theorem kv{a b c d e:Nat}(F:a<=b)(D:c+b=d)(u:c+e<c+a):c+e<=d:=b7 (m9 u) (D▸e6 F c)
theorem ky(F:a<=b)(D:c<300)(u:d+b=c):d+a<300:=i9 (e6 F d) (by rw[u];exact D)
theorem la{a b c d:Nat}(D:a<=b)(u:c+d<c+a):d<b:=g9 (nL u) D
theorem lb(u:a<300):min (b+1) (a-c)<1000:=i9 (gB _ _) (cz u)
theorem lc(u:a-b=c+(d+1)):min (c+1) (a-b)=c+1:=by rw[u];exact bQ (e6 (t4 1 d) c)
theorem ld(u:a-b=c+(d+1)):b+c+1<=a:=by have h:=dT (m9 (gZ u));rw[u]at h;rw[<- h];exact e6 (e6 (t4 1 d) c) b
theorem lg(u:a<300):min (b+c+1-(d+1)) (a-(d+1))<1000:=i9 (gB _ _) (cz u)
theorem lh(F:a<b)(D:b<=c)(u:0+a=c):False:=fP a (g9 F (b7 D (v6 (u.symm.trans (fJ a)))))
theorem li(F:a<300)(D:b=a)(u:c<=b):c<1000:=i9 u (by rw[D];exact bj F)
theorem eh{a b:Nat}(u:a<b):b=a+(b-a):=(dT (m9 u)).symm
theorem dl{a b c d:Nat}(D:a+b<=c)(u:d+a=c):b<=d:=Nat.le_of_add_le_add_left (by rw[m7 a d,u];exact D:a+b<=a+d)
theorem lj(J:a<300)(F:b=a)(D:c=d)(u:d<=b)(I:c=e):e<300:=by subst F D I;exact i9 u J
theorem lk(F:a<300)(D:b=a)(u:c<=b):c<300:=i9 u (by rw[D];exact F)
theorem ll(u:a=b):c+b+0+d=c+(a+d):=by rw[u];exact i7 c b d
theorem ek(F:a<=900)(D:b<=a+1)(u:c=16777216):b<=c:=by subst u;exact b7 D (bx F)
theorem lm(u:a<=900):¬0+a>16777216:=Nat.not_lt.mpr (by rw[fJ];exact bj u)
theorem lq(D:a<=8*b)(u:c<=8):c+a<=8*(b+1):=by rw[m7];exact u2 D u
theorem lr(I:a<=10)(F:b<=8)(D:c<=8)(u:d<=8*a):b+(d+c)<=100:=b7 (u2 F (u2 (b7 u (n4 8 I)) D)) pi
theorem lu(u:a<=10)(D:b<=8*a):b<=900:=b7 D (bj (n4 8 u))
theorem lw(u:a+(b+c)<=100):a+b<=16777216:=b7 (n5 _ c) (by rw[i7];exact bj u)
theorem lx(u:a+(b+c)<=100):a+b+c<=16777216:=by rw[i7];exact bj u
theorem ly{a:Nat}(u:(a:Int)=4):a=4:=gN ((λ{m n} => Int.ofNat_inj.mp) (id (gN u)))
theorem lz{a:Nat}(u:(a:Int)=1):a=1:=gN ((λ{m n} => Int.ofNat_inj.mp) (id (gN u)))
theorem mc{a:Nat}:-1000<=(a:Int)-1:=nM (iK pi (u0 a))
theorem me{a b:Nat}(u:a<=900)(D:b<=a):(b:Int)-1<=1000:=iK (Int.sub_le_self _ pi) (Int.ofNat_le.mpr (b7 D (bj u)))
theorem mf(u:a<=b)(D:¬a=0):a-1<b:=g9 (Nat.sub_one_lt D) u
theorem mh{a:Nat}(u:¬a=0):(a:Int)>0:=Int.natCast_pos.mpr (r6 u)
theorem mi(F:a<=100)(D:b<=a+1)(u:b=c+d):d<=1000:=b7 (bq u.symm) (b7 D (bx F))
theorem mj{a b c d:Nat}(D:a<b)(u:c+d=b):a-d<=c:=Nat.sub_le_of_le_add (by rw[u];exact m9 D)
theorem ml(u:a<=100)(D:b<=a+1):b-1<=16777216:=b7 (gH _ _) (b7 D (bx u))
theorem mn(u:a<=b/\b<=c)(D:d<=c+1-(b+1)):d+1<=c+1-a:=fG (by rw[i8];exact n9 (b7 (e6 u.1 d) (Nat.add_le_of_le_sub u.2 (gJ c 1 b▸D))))
theorem mo(u:a+(b+2)<=c+b):a+2<=c:=Nat.le_of_add_le_add_right (b:=b) (by rw[i7,m7 2];exact u)
theorem mq(F:a<=b+1)(D:c+d=a)(u:0<c):d<=b:=bO (g9 (by rw[<- D];exact oT u) F)
theorem mr{a b:Nat}(u:a<=1000)(D:b<a):(b:Int)<=1000:=Int.ofNat_le.mpr (b7 (m9 D) u)
theorem ms(u:a+b<=c):a<0+(c+1-0):=by rw[fJ];exact v7 (dP u)
theorem el:a<a+1+b:=lN (n5 a.succ b)
theorem mu:((a+(b+c+1):Nat):Int)-1=((a+b+c:Nat):Int):=(cj (eQ (a+(b+c)))).trans (g0 Int.ofNat (i7 a b c).symm)
theorem mv(u:a+b+1<=c+1):a<=c:=dP (r7 u)
theorem er(u:a<b):a<c+(b+1-c):=g9 (dU u) (Nat.sub_le_iff_le_add'.mp (i5 _))
theorem mw(F:a<=b-2)(D:min 2 b=c)(u:c=2):a+3<=b+1:=n9 (Nat.add_le_of_le_sub (dk (D.trans u)) F)
theorem mx(u:a=b+(c+1)):b+2<=a+1:=by rw[u];exact n9 (e6 (t4 1 c) b)
theorem my(u:a<=b):2*a+1<=2*b+1:=n9 (n4 2 u)
theorem mz(u:a<=b):a-1<=b+c:=b7 (gH _ _) (b7 u (n5 _ _))
theorem na(u:a<300)(I:b+c<=a)(F:d<=c)(D:e<=2*c+1):¬(d>1000\/e>1000):=λq=>by have h:=i9 (lV I) u;exact q.elim (λq=>d9 (g9 q F) (Nat.not_lt.mpr (bk h))) λq=>d9 (g9 q (b7 D (n9 (n4 2 (m9 h))))) pi
theorem nc(J:a<300)(F:b<c+1)(D:c+1<=1000)(u:d+e<=a)(I:d+e+b=f):f<4294967295:=I▸g9 (Nat.add_lt_add_of_le_of_lt (b7 u (m9 J)) (g9 F D)) pi
theorem nd(I:a<b+1)(F:c+(d+1)=a)(D:0<e)(u:f=d+1-e):f<b:=by rw[u];exact g9 (gW (eQ d) D) (b7 (bq F) (bO I))
theorem nf(F:a+(b+1)=c)(D:d<=b+1)(u:e=b+1-d):2*(f+a+d+e)+1<=2*(f+c)+1:=n9 (n4 2 (di F D u))
theorem ng(u:a<300)(I:b+c+d=e)(F:f+g=d)(D:h=a)(J:e<=h):f<1000:=i9 (b7 (iJ F) (b7 (bq I) (D▸J))) (bj u)
theorem nh(D:a+b+c=d)(u:e+(f+1)=c):a+b+e<d:=by rw[<- D,<- u];exact mN (w8 (eQ f)) _
theorem ni(F:a<300)(D:b+c=a)(u:d<=0+c):d<=1000:=b7 (fJ c▸u) (b7 (bq D) (bk F))
theorem nj(F:a<300)(D:b+c=a)(u:d<=2*(0+c)+1):d<=1000:=by rw[fJ]at u;exact b7 u (bx (n4 2 (m9 (i9 (bq D) F))))
theorem nk{a b:Nat}(u:a+b<=1000):(a:Int)<=2000:=Int.ofNat_le.mpr (b7 (dP u) pi)
theorem nm{a b:Nat}(u:a+b<=1000):(b:Int)<=2000:=Int.ofNat_le.mpr (b7 (lV u) pi)
theorem nn:0<=((a+b:Nat):Int)+(1-1):=Int.NonNeg.mk (a+b+(1-pL 0)+0)
theorem np(u:a+b<=1000):((a+b:Nat):Int)+(1-1)<=2000:=by show _+(0:Int)<=_;rw[oU];exact Int.ofNat_le.mpr (bj u)
theorem nq(u:a<b+1)(D:¬a=b):a<b:=fB (bO u) D
theorem nr(I:a<300)(F:b=a)(D:c<=b)(u:d+e<=c):d+e<=1000:=b7 u (b7 D (by rw[F];exact bk I))
theorem nt(I:a<300)(F:b=a)(D:c<=b+1)(u:c>1000):False:=by subst F;exact d9 (g9 u (b7 D I)) pi
theorem nu(F:a<b+1)(D:c+1<=a)(u:0<d):c+1-d<b:=g9 (gW (eQ c) u) (b7 D (bO F))
theorem et(h:a+5*b+50<6000)(i:c+d<=50:=by decide):a+c+(5*b+d)<6000:=i9 (b7 (v6 (Nat.add_add_add_comm a c (5*b) d)) (e6 i _)) h
theorem eu(h:a+5*b+50<6000)(i:c<b)(j:k<=5:=by decide):a+k+5*c+50<6000:=i9 (m5 (by rw[i7];exact e6 (b7 (m5 j _) (b7 (v6 (m7 5 (5*c))) (n4 5 i))) a) 50) h
theorem ew(i:c<b)(j:k+m<=30+n:=by decide):d+k+30*c+m<=d+30*b+n:=by rw[i7 d,m7 k,i7 d,i7 (30*c),i7 d];exact e6 (b7 (e6 j _) (by rw[<- i7];exact m5 (n4 30 i) n)) d
theorem cc{a k m:Nat}(i:k<=m:=by decide):a+k<=a+m:=e6 i a
theorem cq{a b c k:Nat}(h:a<b)(i:b+k<=c:=by decide):a+k<c:=g9 (Nat.add_lt_add_right h k) i
theorem da{a:Nat}{c:Int}(i:c<=0:=by decide):c<=(a:Int):=iK i (u0 a)
theorem db{a n:Nat}{c:Int}(h:a<=n)(i:(n:Int)<c:=by decide):(a:Int)<c:=lA (Int.ofNat_le.mpr h) i
theorem dm{a b:Nat}(h:((a:Int)==(b:Int))):a=b:=Int.ofNat_inj.mp (eU h)
theorem nv{a b:Nat}(h:((a:Int)-1==(b:Int))):a=b+1:=Int.ofNat_inj.mp (Int.sub_eq_iff_eq_add.mp (eU h))
theorem ey{a b:Nat}(h:a<=b)(e:decide (a<b)=false):a=b:=eW h (Nat.not_lt.mp (w5 e))
theorem ez(F:a<1000)(D:b+c=a)(u:d<=c):d+1<=1001:=b7 (n9 (b7 u (bq D))) (m3 F)
theorem dg{a b c:Nat}:a+b-b+c=a+c:=by rw[gI]
theorem nw(F:0<a)(D:b+c=d)(u:a<=c):d≠0:=dO (g9 F (b7 u (bq D)))
theorem ny(u:a<1000):a+1<16777216:=bx (a:=a+1) u
theorem nz(u:a-b<4)(I:b+c=a)(F:d<=c)(D:e<=d)(J:4<=e):False:=by subst I;rw[w7]at u;exact fP _ (g9 u (b7 J (b7 D F)))
theorem oe(u:¬a-b<4):b+4<=a:=Nat.lt_sub_iff_add_lt'.mp (show 3<a-b from Nat.not_lt.mp u)
theorem fb(F:a<300)(D:b+c=a)(u:d<=c):d+1<=301:=b7 (n9 (b7 u (bq D))) (m3 F)
theorem og:a+1+1+1+3<=a+14:=cc (k:=6)
theorem oh(u:a+5*b+50<6000):a+1+1+(5*b+40)<6000:=et (c:=2) u
theorem oi{a b c:Nat}(u:a<b):a<b+c:=g9 u (n5 b c)
theorem oj(F:a+5*b+50<6000)(D:c<b)(u:d<=c):a+1+1+1+5*d+50<6000:=eu (k:=3) F (i9 u D)
theorem ol(D:a<b)(u:c<=a):d+1+1+1+30*c+40<=d+30*b+19:=ew (k:=3) (i9 u D)
theorem oq(u:a+5*b+50<6000):a+1+10<6000:=cp (k:=11) u
theorem ff(u:a+5*b+50<6000):a+1+20<6000:=cp (k:=21) u
theorem ou(u:a+5*b+50<6000):a+1+1+20<6000:=cp (k:=22) u
theorem ow:a+30*b+26+1+1<=a+30*b+29:=cc (k:=28)
theorem ox(u:a+5*b+50<6000):a+1+(5*b+40)<6000:=et (c:=1) u
theorem oy:a+(b+c+2)=a+1+1+b+c:=(i8 a 2 (b+c)).symm.trans (i7 (a+2) b c).symm
theorem oz:a<a+1+1+b:=m9 (n5 (a+2) b)
theorem pa(F:a+5*b+50<6000)(D:c<=d)(u:d<b):a+1+1+5*c+50<6000:=eu (k:=2) F (i9 D u)
theorem pb(D:a<=b)(u:b<c):d+1+1+30*a+40<=d+30*c+36:=ew (k:=2) (i9 D u)
theorem fg(u:a<10):a+1+40<6000:=cq (k:=41) u
theorem fh(I:a<300)(F:b<10)(D:c<=d)(u:e+d=a):b+1+1+5*c+50<6000:=i9 (m5 (u2 (m5 (m9 F) 2) (n4 5 (b7 D (b7 (bq u) (m9 I))))) 50) (by decide:10+2+5*300+50<6000)
theorem fi(I:a<300)(F:b<10)(D:c<=d)(u:e+d=a):b+1+1+30*c+40<=11998:=b7 (m5 (u2 (m5 (m9 F) 2) (n4 30 (b7 D (b7 (bq u) (m9 I))))) 40) (by decide:10+2+30*300+40<=11998)
theorem fj(u:a<100):a+1<10000:=bx (a:=a+1) u
theorem pd(F:a<b)(D:c<=d)(u:d<a+1+(b-(a+1))):c<=b:=b7 D (m9 (iZ u (dT F)))
theorem fm:a<=b+(c+a+1):=b7 (t4 a c) (b7 (eM _) (t4 _ b))
theorem ao [Decidable c]{α:Type _}{a b x:α}(h:¬c)(e:ite c a b=x):b=x:=(b6 h).symm.trans e
theorem aw [Decidable c]{α:Type _}{a b x:α}(h:c)(e:ite c a b=x):a=x:=(d3 h).symm.trans e
theorem bc [Decidable c]{α:Type _}{a b x:α}(h:¬c)(e:b=x):ite c a b=x:=(b6 h).trans e
theorem ax [Decidable c]{α:Type _}{a b x:α}(h:c)(e:a=x):ite c a b=x:=(d3 h).trans e
theorem bo{G:Prop}(h:A/\B)(f:A->B->G):G:=f h.1 h.2
theorem bg{G:Prop}(h:A/\B/\C)(f:A->B->C->G):G:=f h.1 h.2.1 h.2.2
theorem bz{G:Prop}(h:A/\B/\C/\D)(f:A->B->C->D->G):G:=f h.1 h.2.1 h.2.2.1 h.2.2.2
theorem fo{G:Prop}(h:A/\B/\C/\D/\E)(f:A->B->C->D->E->G):G:=f h.1 h.2.1 h.2.2.1 h.2.2.2.1 h.2.2.2.2
theorem fp{G:Prop}(h:A/\B/\C/\D/\E/\F)(f:A->B->C->D->E->F->G):G:=f h.1 h.2.1 h.2.2.1 h.2.2.2.1 h.2.2.2.2.1 h.2.2.2.2.2
theorem bf{A:α->Prop}{G:Prop}(h:∃x,A x)(f:∀x,A x->G):G:=h.elim λx h=>f x h
theorem ae{A B:α->Prop}{G:Prop}(h:∃x,A x/\B x)(f:∀x,A x->B x->G):G:=h.elim λx h=>f x h.1 h.2
theorem bh{A B C:α->Prop}{G:Prop}(h:∃x,A x/\B x/\C x)(f:∀x,A x->B x->C x->G):G:=h.elim λx h=>f x h.1 h.2.1 h.2.2
theorem ck{A B C D:α->Prop}{G:Prop}(h:∃x,A x/\B x/\C x/\D x)(f:∀x,A x->B x->C x->D x->G):G:=h.elim λx h=>f x h.1 h.2.1 h.2.2.1 h.2.2.2
theorem fq{A B C D E:α->Prop}{G:Prop}(h:∃x,A x/\B x/\C x/\D x/\E x)(f:∀x,A x->B x->C x->D x->E x->G):G:=h.elim λx h=>f x h.1 h.2.1 h.2.2.1 h.2.2.2.1 h.2.2.2.2
theorem pe{A B C D E F H:α->Prop}{G:Prop}(h:∃x,A x/\B x/\C x/\D x/\E x/\F x/\H x)(f:∀x,A x->B x->C x->D x->E x->F x->H x->G):G:=h.elim λx h=>f x h.1 h.2.1 h.2.2.1 h.2.2.2.1 h.2.2.2.2.1 h.2.2.2.2.2.1 h.2.2.2.2.2.2
theorem pf{A B C D E F H I:α->Prop}{G:Prop}(h:∃x,A x/\B x/\C x/\D x/\E x/\F x/\H x/\I x)(f:∀x,A x->B x->C x->D x->E x->F x->H x->I x->G):G:=h.elim λx h=>f x h.1 h.2.1 h.2.2.1 h.2.2.2.1 h.2.2.2.2.1 h.2.2.2.2.2.1 h.2.2.2.2.2.2.1 h.2.2.2.2.2.2.2
theorem ft{A B C D E F H I J:α->Prop}{G:Prop}(h:∃x,A x/\B x/\C x/\D x/\E x/\F x/\H x/\I x/\J x)(f:∀x,A x->B x->C x->D x->E x->F x->H x->I x->J x->G):G:=h.elim λx h=>f x h.1 h.2.1 h.2.2.1 h.2.2.2.1 h.2.2.2.2.1 h.2.2.2.2.2.1 h.2.2.2.2.2.2.1 h.2.2.2.2.2.2.2.1 h.2.2.2.2.2.2.2.2
theorem cg{β:Sort _}{A:α->β->Prop}{G:Prop}(h:∃x,∃y,A x y)(f:∀x y,A x y->G):G:=h.elim λx h=>h.elim λy h=>f x y h
theorem bp{β:Sort _}{A B:α->β->Prop}{G:Prop}(h:∃x,∃y,A x y/\B x y)(f:∀x y,A x y->B x y->G):G:=h.elim λx h=>h.elim λy h=>f x y h.1 h.2
theorem bi{β:Sort _}{A B C:α->β->Prop}{G:Prop}(h:∃x,∃y,A x y/\B x y/\C x y)(f:∀x y,A x y->B x y->C x y->G):G:=h.elim λx h=>h.elim λy h=>f x y h.1 h.2.1 h.2.2
theorem bu{β:Sort _}{A B C D:α->β->Prop}{G:Prop}(h:∃x,∃y,A x y/\B x y/\C x y/\D x y)(f:∀x y,A x y->B x y->C x y->D x y->G):G:=h.elim λx h=>h.elim λy h=>f x y h.1 h.2.1 h.2.2.1 h.2.2.2
theorem cy{β:Sort _}{A B C D E:α->β->Prop}{G:Prop}(h:∃x,∃y,A x y/\B x y/\C x y/\D x y/\E x y)(f:∀x y,A x y->B x y->C x y->D x y->E x y->G):G:=h.elim λx h=>h.elim λy h=>f x y h.1 h.2.1 h.2.2.1 h.2.2.2.1 h.2.2.2.2
theorem fu{β:Sort _}{A B C D E F H I J:α->β->Prop}{G:Prop}(h:∃x,∃y,A x y/\B x y/\C x y/\D x y/\E x y/\F x y/\H x y/\I x y/\J x y)(f:∀x y,A x y->B x y->C x y->D x y->E x y->F x y->H x y->I x y->J x y->G):G:=h.elim λx h=>h.elim λy h=>f x y h.1 h.2.1 h.2.2.1 h.2.2.2.1 h.2.2.2.2.1 h.2.2.2.2.2.1 h.2.2.2.2.2.2.1 h.2.2.2.2.2.2.2.1 h.2.2.2.2.2.2.2.2
theorem dn{β:Sort _}{γ:Sort _}{A:α->β->γ->Prop}{G:Prop}(h:∃x,∃y,∃z,A x y z)(f:∀x y z,A x y z->G):G:=h.elim λx h=>h.elim λy h=>h.elim λz h=>f x y z h
theorem dp{β:Sort _}{γ:Sort _}{A B:α->β->γ->Prop}{G:Prop}(h:∃x,∃y,∃z,A x y z/\B x y z)(f:∀x y z,A x y z->B x y z->G):G:=h.elim λx h=>h.elim λy h=>h.elim λz h=>f x y z h.1 h.2
theorem cm{β:Sort _}{γ:Sort _}{A B C:α->β->γ->Prop}{G:Prop}(h:∃x,∃y,∃z,A x y z/\B x y z/\C x y z)(f:∀x y z,A x y z->B x y z->C x y z->G):G:=h.elim λx h=>h.elim λy h=>h.elim λz h=>f x y z h.1 h.2.1 h.2.2
theorem bw{β:Sort _}{γ:Sort _}{A B C D:α->β->γ->Prop}{G:Prop}(h:∃x,∃y,∃z,A x y z/\B x y z/\C x y z/\D x y z)(f:∀x y z,A x y z->B x y z->C x y z->D x y z->G):G:=h.elim λx h=>h.elim λy h=>h.elim λz h=>f x y z h.1 h.2.1 h.2.2.1 h.2.2.2
theorem dh{β:Sort _}{γ:Sort _}{A B C D E:α->β->γ->Prop}{G:Prop}(h:∃x,∃y,∃z,A x y z/\B x y z/\C x y z/\D x y z/\E x y z)(f:∀x y z,A x y z->B x y z->C x y z->D x y z->E x y z->G):G:=h.elim λx h=>h.elim λy h=>h.elim λz h=>f x y z h.1 h.2.1 h.2.2.1 h.2.2.2.1 h.2.2.2.2
theorem fv{β:Sort _}{γ:Sort _}{A B C D E F H I:α->β->γ->Prop}{G:Prop}(h:∃x,∃y,∃z,A x y z/\B x y z/\C x y z/\D x y z/\E x y z/\F x y z/\H x y z/\I x y z)(f:∀x y z,A x y z->B x y z->C x y z->D x y z->E x y z->F x y z->H x y z->I x y z->G):G:=h.elim λx h=>h.elim λy h=>h.elim λz h=>f x y z h.1 h.2.1 h.2.2.1 h.2.2.2.1 h.2.2.2.2.1 h.2.2.2.2.2.1 h.2.2.2.2.2.2.1 h.2.2.2.2.2.2.2
theorem dq{β:Sort _}{γ:Sort _}{δ:Sort _}{A B:α->β->γ->δ->Prop}{G:Prop}(h:∃x,∃y,∃z,∃w,A x y z w/\B x y z w)(f:∀x y z w,A x y z w->B x y z w->G):G:=h.elim λx h=>h.elim λy h=>h.elim λz h=>h.elim λw h=>f x y z w h.1 h.2
theorem pg{β:Sort _}{γ:Sort _}{δ:Sort _}{A B C:α->β->γ->δ->Prop}{G:Prop}(h:∃x,∃y,∃z,∃w,A x y z w/\B x y z w/\C x y z w)(f:∀x y z w,A x y z w->B x y z w->C x y z w->G):G:=h.elim λx h=>h.elim λy h=>h.elim λz h=>h.elim λw h=>f x y z w h.1 h.2.1 h.2.2
theorem fx{β:Sort _}{γ:Sort _}{δ:Sort _}{A B C D:α->β->γ->δ->Prop}{G:Prop}(h:∃x,∃y,∃z,∃w,A x y z w/\B x y z w/\C x y z w/\D x y z w)(f:∀x y z w,A x y z w->B x y z w->C x y z w->D x y z w->G):G:=h.elim λx h=>h.elim λy h=>h.elim λz h=>h.elim λw h=>f x y z w h.1 h.2.1 h.2.2.1 h.2.2.2
theorem cn{β:Sort _}{γ:Sort _}{δ:Sort _}{A B C D E:α->β->γ->δ->Prop}{G:Prop}(h:∃x,∃y,∃z,∃w,A x y z w/\B x y z w/\C x y z w/\D x y z w/\E x y z w)(f:∀x y z w,A x y z w->B x y z w->C x y z w->D x y z w->E x y z w->G):G:=h.elim λx h=>h.elim λy h=>h.elim λz h=>h.elim λw h=>f x y z w h.1 h.2.1 h.2.2.1 h.2.2.2.1 h.2.2.2.2
theorem dc{β:Sort _}{γ:Sort _}{δ:Sort _}{A B C D E F:α->β->γ->δ->Prop}{G:Prop}(h:∃x,∃y,∃z,∃w,A x y z w/\B x y z w/\C x y z w/\D x y z w/\E x y z w/\F x y z w)(f:∀x y z w,A x y z w->B x y z w->C x y z w->D x y z w->E x y z w->F x y z w->G):G:=h.elim λx h=>h.elim λy h=>h.elim λz h=>h.elim λw h=>f x y z w h.1 h.2.1 h.2.2.1 h.2.2.2.1 h.2.2.2.2.1 h.2.2.2.2.2
theorem fy{β:Sort _}{γ:Sort _}{δ:Sort _}{A B C D E F H:α->β->γ->δ->Prop}{G:Prop}(h:∃x,∃y,∃z,∃w,A x y z w/\B x y z w/\C x y z w/\D x y z w/\E x y z w/\F x y z w/\H x y z w)(f:∀x y z w,A x y z w->B x y z w->C x y z w->D x y z w->E x y z w->F x y z w->H x y z w->G):G:=h.elim λx h=>h.elim λy h=>h.elim λz h=>h.elim λw h=>f x y z w h.1 h.2.1 h.2.2.1 h.2.2.2.1 h.2.2.2.2.1 h.2.2.2.2.2.1 h.2.2.2.2.2.2
theorem ph{β:Sort _}{γ:Sort _}{δ:Sort _}{A B C D E F H I:α->β->γ->δ->Prop}{G:Prop}(h:∃x,∃y,∃z,∃w,A x y z w/\B x y z w/\C x y z w/\D x y z w/\E x y z w/\F x y z w/\H x y z w/\I x y z w)(f:∀x y z w,A x y z w->B x y z w->C x y z w->D x y z w->E x y z w->F x y z w->H x y z w->I x y z w->G):G:=h.elim λx h=>h.elim λy h=>h.elim λz h=>h.elim λw h=>f x y z w h.1 h.2.1 h.2.2.1 h.2.2.2.1 h.2.2.2.2.1 h.2.2.2.2.2.1 h.2.2.2.2.2.2.1 h.2.2.2.2.2.2.2
end Mine.Lake
open List (replicate any_map cons_append filter_append filter_cons_of_neg filter_cons_of_pos getElem?_eq_none nil_append of_mem_zip range'_succ)
open Array (size_push)
open Option (bind_eq_some_iff map_eq_some_iff)
open Bool (not_not)
namespace Mine.Lake
abbrev Pv:=j7->PySem.Shared->Prop
abbrev Ln:=List Nat
abbrev Lv:=List j7
end Mine.Lake
namespace Mine.Lake.Re
open PySem PySem.Sre PySem.Builtin.Re PyProof.Rows
theorem zB(h:m.outcome.isSome):∀n,v3 n m=m
 |0=>rfl
 |n+1=>ax h rfl
theorem xA:∀(a b:Nat)(m:M),v3 (a+b) m=v3 b (v3 a m):=by
 intro D;induction D with
 |zero=>intro b m;rw[fJ];rfl
 |succ a u =>
  intro b m;rw[show a+1+b=(a+b)+1 by exact gN (i8 _ _ 1)];by_cases h:m.outcome.isSome=true
  .rw[zB h,zB h,zB h]
  .show(if m.outcome.isSome then m else v3 (a+b) m.step)=v3 b (if m.outcome.isSome then m else v3 a m.step);rw[b6 h,b6 h];exact u b m.step
section
variable{M':Model}{A:w4}{E:Pv}{s:g6}
theorem qKs:∀(T:Nat)(m:M)(n:Nat){Q:M->g6->Prop},(v3 n m).outcome.isSome->n<=4*T->1<=T->Q (v3 n m) s->wpAny M' A (reDrive T m) Q E s:=by
 intro L;induction L with
 |zero=>intro m n Q h I h1 D;lia
 |succ T J =>
  intro m n Q h I h1 D;show wpAny M' A (if(v3 4 m).outcome.isSome then pure (v3 4 m)else do rule "sre.turn";reDrive T (v3 4 m)) Q E s;by_cases h4:(v3 4 m).outcome.isSome=true
  .rw[d3 h4];rw[(by
    by_cases u:4<=n
    .rw[show n=4+(n-4)by simp[u],xA,zB h4]
    .rw[show(4:Nat)=n+(4-n)by exact gu u,xA,zB h]:v3 n m=v3 4 m)]at D
   exact g7 D
  .rw[b6 h4];have F:4<n:=by refine Nat.not_le.mp λu=>h4 ?_;rw[show(4:Nat)=n+(4-n)by simp[u],xA,zB h];exact h
   rw[(by
    conv=>lhs;rw[show n=4+(n-4)by exact gv F]
    rw[xA]:v3 n m=v3 (n-4) (v3 4 m))]at h D
   exact d8 (rA (J _ (n-4) h (by exact Nat.sub_le_of_le_add I) (by exact jg I F) D))
theorem qJa{c:Nat->Bool}{D:Nat->String}:∀(l:Ln){Q:PUnit->g6->Prop},Q ⟨⟩ s->wpAny M' A (forIn l PUnit.unit λi r=>if c i then do rule (D i);pure (fU PUnit.unit)else pure (fU PUnit.unit)) Q E s:=by
 intro F;induction F with
 |nil=>intro Q h;rw[List.forIn_nil];exact g7 h
 |cons i l u =>
  intro Q h;rw[mW];refine d8 ?_;by_cases hc:c i=true
  .rw[d3 hc];exact d8 (rA (g7 (u h)))
  .rw[b6 hc];exact g7 (u h)
theorem zIr(u:(v3 n m).outcome=some .matched\/(v3 n m).outcome=some .failed)(F:n<=4*2 ^ 64) 
  (hs:(v3 n m).outcome=some .matched->Q (some (v3 n m)) s)(D:(v3 n m).outcome=some .failed->Q none s):wpAny M' A (reRunToEnd m) Q E s:=by
 refine d8 (qKs (2 ^ 64) m n (by rcases u with h|h <;> rw[h] <;> rfl) F pi (d8 (qJa _ ?_)));rcases u with h|h
 .rw[h];exact g7 (hs h)
 .rw[h];exact g7 (D h)
end
noncomputable def zAs(code text:Array Nat)(pos lim:Nat):M:=v3 20000 (forMatch code text 0 pos lim false false)
noncomputable def qLl(m:M):Option (Option (Nat×Nat)):=match m.outcome with
 |some .matched=>if m.lastindex = -1 then some (some (m.start,m.handed))else none
 |some .failed=>some none
 |_=>none
def qS(code text:Array Nat)(pos lim:Nat):Option (Option (Nat×Nat)):=qLl (zAs code text pos lim)
noncomputable def boundObj(id:String)(a:Addr):Obj:={ cls:=.type "builtin_function_or_method",data:=.fields #[.builtin id,.ref a] }
structure PatAt(h:nZ)(pt:Addr)(code:Array Nat):Prop where
 at_:∃op fs ct,h.get? pt=some op/\op.cls=.type "re.Pattern"/\op.data=.fields fs/\reRawNat (fs.getD 6 .none)=0/\reRawNat (fs.getD 2 .none)=0/\fs.getD 5 .none=.ref ct /\
  ∃oc items e,h.get? ct=some oc/\oc.data=.seq items e/\(items.map reRawOf).map (·.toNat)=code
theorem qAu:entryFor table "re.Pattern.match"=some Builtin.«re.Pattern.match»:=lZ (by kernel_rfl)
theorem qJf:(Code.builtin "re.Pattern.match" as).quiet:=Code.quiet_builtin _ pw
theorem qEu:iR "re.Pattern.match"=some ⟨.keywords,"Pattern.match","match",.self,[⟨"string",.posOrKw,true⟩,⟨"pos",.posOrKw,false⟩,⟨"endpos",.posOrKw,false⟩]⟩:=by kernel_rfl
theorem qNq:builtinKind "re.Pattern.match"=some .method:=by kernel_rfl
noncomputable def xV:List Int->Int
 |i::_=>i
 | []=>0
noncomputable def xW:List Int->Int
 |_::l::_=>l
 |_=>2 ^ 63-1
inductive IntArgs:List Int->Lv->Prop
 |nil:IntArgs [] []
 |one(i:Int)(t:Tok):IntArgs [i] [.int i t]
 |two(i l:Int)(t u:Tok):IntArgs [i,l] [.int i t,.int l u]
theorem qLb(h:IntArgs u rest):Bind.checkArgs "re.Pattern.match" ⟨.keywords,s!"{Bind.lastOf "re.Pattern"}.{Bind.lastOf "re.Pattern.match"}","match",.self,[⟨"string",.posOrKw,true⟩,⟨"pos",.posOrKw,false⟩,⟨"endpos",.posOrKw,false⟩]⟩ ⟨self::.str x t::rest,[]⟩=pure ():=by
 cases h <;> first|rfl|kernel_rfl
section
variable{A:w4}{E:Pv}{s:g6}
theorem qLe{code:Array Nat}{M:Model}(P:PatAt s.heap u code)(h:IntArgs D rest)(F:Q () s):wpAny M A (checkBoundCall "re.Pattern.match" ⟨.ref u::.str x t::rest,[]⟩) Q E s:=by
 refine bw P.at_ λop fs ct h1 h2 h3 z=>?_;obtain hT:s.TypeIs (.ref u) "re.Pattern":= ⟨op,h1,h2⟩
 unfold checkBoundCall;rw[qEu,qNq];dsimp only;rw[zX1];refine d8 (oK (b:=false) hT (by rw[iC];kernel_rfl) ?_);rw[b6 pw];refine d8 (d8 (iD h1 (g7 ?_)));rw[h3];rw[b6 (λq=>zF1 q)];exact d8 (wpAny_typeOf hT (cB (qLb h) F))
theorem qNh{id:String}(h:IntArgs u rest):reNamed id f ["string","pos","endpos"] 1 (.str x t::rest) []=pure [some (.str x t),rest[0]?,rest[1]?]:=by cases h <;> rfl
theorem qCf{M:Model}(h1 :-(2 ^ 63)<=i)(h2:i<2 ^ 63)(u:Q i s):wpAny M A (reSsize (.int i t)) Q E s:=by refine d8 (cB (a:=i) rfl ?_);rw[b6 (by simp;lia)];exact g7 u
theorem qGr{M:Model}{code:Array Nat}(P:PatAt s.heap F code){Q:ReTarget->g6->Prop}(L:Q { pattern:=.ref F,string:=.str x t,code:=code,text:=x.cps,kind:=0,groups:=0,pos:=min pos.toNat x.cps.size,lim:=min lim.toNat x.cps.size } s):wpAny M A (do
   let fs <- fieldsOf (.ref F)
   let(text,kind) <- reTextOf (.str x t)
   let D:=reRawNat (fs.getD 6 .none)
   if D==0&&kind==1 then raiseError "TypeError" "cannot use a string pattern on a bytes-like object"
   if D==1&&kind==0 then raiseError "TypeError" "cannot use a bytes pattern on a string-like object"
   reNoCollectionInside (.str x t) kind
   let u (i:Int):Nat:=min i.toNat text.size
   pure { pattern:=.ref F,string:=.str x t,code:=(<- reRawItems (fs.getD 5 .none)).map (·.toNat),text,kind,groups:=reRawNat (fs.getD 2 .none),pos:=u pos,lim:=u lim }) Q E s:=by
 refine bC λS=>?_;obtain⟨op,fs,ct,h1,h2,h3,h4,h5,I,oc,items,e,N,J,O⟩:=P.at_;refine S (d8 (wpAny_fieldsOf h1 h3 (d8 (cB (a:=(x.cps,0)) rfl ?_))));dsimp only;rw[h4];rw[zX1,zX1];refine d8 (cB (a:=()) rfl ?_);rw[I];refine d8 (d8 (wpAny_seqItems N J (g7 (g7 ?_))));dsimp only[Option.getD];rw[O,h5];exact L
theorem qSh{M:Model}{code:Array Nat}{id:String}(P:PatAt s.heap L code)(h:IntArgs D rest)(F :-(2 ^ 63)<=xV D)(I:xV D<2 ^ 63)(O :-(2 ^ 63)<=xW D)(N:xW D<2 ^ 63) 
  (J:Q { pattern:=.ref L,string:=.str x t,code:=code,text:=x.cps,kind:=0,groups:=0,pos:=min (xV D).toNat x.cps.size,lim:=min (xW D).toNat x.cps.size } s):wpAny M A (reTarget id f ⟨.ref L::.str x t::rest,[]⟩) Q E s:=by
 refine d8 (cB (qNh h) ?_);cases h with
 |nil=>exact d8 (g7 (d8 (g7 (qGr P J))))
 |one i u=>exact d8 (qCf F I (d8 (g7 (qGr P J))))
 |two i l u v=>exact d8 (qCf F I (d8 (qCf O N (qGr P J))))
end
noncomputable def jB(p e:Nat):Obj:={ cls:=.type "tuple",data:=.seq #[rawInt p,rawInt e] }
noncomputable def kP(x:Str)(t:Tok)(u D:Addr)(pos lim:Nat):Obj:={ cls:=.type "re.Match",data:=.fields #[.str x t,.ref u,rawInt pos,rawInt lim,rawInt (-1),.ref D] }
section
variable{prog:iY}{w:World}{A:w4}{E:Pv}{s:g6}{M:Model}
theorem qJo(h1:m.start=p)(h2:m.handed=e)(h3:m.lastindex = -1){Q:Pv}(D:Q (.ref (s.heap.objs.size+1)) { s with heap:=(s.heap.push (jB p e)).push (kP x t u s.heap.objs.size pos lim) }):wpAny M A (reNewMatch (.ref u) (.str x t) 0 pos lim m) Q E s:=by
 unfold reNewMatch;rw[b6 (by simp)];refine d8 (fQ (fQ ?_ (by show(6:Nat)<=j0+2;decide)) (by show(2:Nat)<=j0;decide));rw[(λo=>lO ..)];rw[h1,h2,h3];exact D
set_option tactic.hygienic true in
theorem qCa{code:Array Nat}(P:PatAt s.heap I code)(h:IntArgs D rest)(N :-(2 ^ 63)<=xV D)(O:xV D<2 ^ 63)(L :-(2 ^ 63)<=xW D)(J:xW D<2 ^ 63) 
  (u:qS code x.cps (min (xV D).toNat x.cps.size) (min (xW D).toNat x.cps.size)=some r) 
  (hs:∀p e,r=some (p,e)->Q (.done (.ret (.ref (s.heap.objs.size+1)))) { s with heap:=(s.heap.push (jB p e)).push (kP x t I s.heap.objs.size (min (xV D).toNat x.cps.size) (min (xW D).toNat x.cps.size)) })(S:r=none->Q (.done (.ret .none)) s):wpAny M A (Builtin.«re.Pattern.match» ⟨.ref I::.str x t::rest,[]⟩) Q E s:=by
 unfold Builtin.«re.Pattern.match»;refine d8 (qSh P h N O L J ?_);dsimp only;unfold qS qLl zAs at u;refine d8 (zIr (n:=20000) ?_ pi (λF=>?_) λF=>?_)
 .generalize Sre.M.outcome _=oo at u |-;cases oo with
  |none=>exact zN1 u
  |some q=>cases q with
   |matched=>exact .inl rfl
   |failed=>exact .inr rfl
   |_=>exact zN1 u
 .rw[F]at u;dsimp only at u;split at u
  .rename_i hi;dsimp only;exact d8 (qJo rfl rfl hi (g7 (hs _ _ (b5 u).symm)))
  .exact zN1 u
 .rw[F]at u;exact g7 (S (b5 u).symm)
theorem qOu{code:Array Nat}(T:s.heap.get? b=some (boundObj "re.Pattern.match" F))(P:PatAt s.heap F code)(h:IntArgs u rest)(L :-(2 ^ 63)<=xV u)(N:xV u<2 ^ 63)(J :-(2 ^ 63)<=xW u)(I:xW u<2 ^ 63) 
  (O:qS code x.cps (min (xV u).toNat x.cps.size) (min (xW u).toNat x.cps.size)=some r){Q:Pv}(hs:∀p e,r=some (p,e)->Q (.ref (s.heap.objs.size+1)) { s with heap:=(s.heap.push (jB p e)).push (kP x t F s.heap.objs.size (min (xV u).toNat x.cps.size) (min (xW u).toNat x.cps.size)) })(S:r=none->Q .none s):wpAny (model prog w) A (call (.ref b) (.str x t::rest)) Q E s:=by
 refine mX (codeAny_of_tree (d8 (iD T ?_)));show wpAny _ _ (if(Value.type "builtin_function_or_method"==Value.type "method"||Value.type "builtin_function_or_method"==Value.type "builtin_function_or_method"||Value.type "builtin_function_or_method"==Value.type "method-wrapper")=true then _ else _) _ _ _;rw[d3 pi];show wpAny _ _ (if(Value.type "builtin_function_or_method"!=Value.type "method")then _ else _) _ _ _;rw[d3 pi];refine d8 (qLe P h (d8 (g7 (g7 (⟨qJf,codeAny_builtin qAu (qCa P h L N J I O ?_ ?_)⟩)))))
 .intro p e D;exact hs p e D
 .intro D;exact S D
theorem qHj{id:String}(F:s.heap.get? b=some (boundObj id u))(D:∀k,Q k s):wpAny M A (keeperOf (.ref b)) Q E s:=d8 (iD F (g7 (D _)))
end
theorem qAc:PlainAttrs "re.Match":=
 ⟨⟨"object.__getattribute__",by rw[dV,w3];kernel_rfl,pw⟩,by rw[dV,w3];kernel_rfl⟩
theorem qIq:Slot "re.Match" "end" "re.Match.end":=
 .of (owner:="re.Match") (n:="end") (by rw[dV,w3];kernel_rfl) pw pw pw
  (by first|exact .inl (by decide +kernel)|exact .inr (by decide +kernel)) (by rw[iC];kernel_rfl)
theorem qWu:typeOf (.builtin "re.Match.end")=pure (.type "method_descriptor"):=by show builtinType _=_;rw[builtinType_eq_fast];kernel_rfl
theorem qVh:entryFor table "re.Match.end"=some Builtin.«re.Match.end»:=lZ (by kernel_rfl)
theorem qJi:Manifest.owners.lookup (String.ofList ['h','c','t','a','M','.','e','r'].reverse)=some Manifest.sig_re_Match:=by kernel_rfl
theorem zDm(a:j7):argsOk "re.Match.end" ⟨[a],[]⟩:=by unfold argsOk;rw[signature?_of (id:="re.Match.end") (n:=['d','n','e']) (o:=['h','c','t','a','M','.','e','r']) (by kernel_rfl) qJi];kernel_rfl
section
variable{M:Model}{A:w4}{E:Pv}{s:g6}{prog:iY}{w:World}
structure MatchAt(h:nZ)(a p e:Nat):Prop where
 there:∃o ot vs items tp aW t u,h.get? a=some o/\o.cls=.type "re.Match"/\o.data=.fields vs/\vs.getD 5 .none=.ref tp/\h.get? tp=some ot/\ot.data=.seq items aW/\items.toList=[.int p t,.int e u]
theorem zBv(X:MatchAt s.heap a p e)(I:∀x,x.spans= #[(p:Int),(e:Int)]->Q x s):wpAny M A (reFound (.ref a)) Q E s:=by obtain⟨o,ot,L,items,O,N,t,u,h1,h2,h3,h4,h5,F,J⟩:=X.there;refine d8 (wpAny_fieldsOf h1 h3 ?_);rw[h4];refine d8 (d8 (wpAny_seqItems h5 F (g7 (g7 (I _ ?_)))));obtain⟨l⟩:=items;have D:l=[.int p t,.int e u]:=J;subst D;rw[List.map_toArray];rfl
theorem zMo(X:MatchAt s.heap a p e)(D:∀x,x.spans= #[(p:Int),(e:Int)]->Q (x,0) s):wpAny M A (reOneGroup name u ⟨[.ref a],[]⟩) Q E s:=d8 (cB (a:=(.ref a,[])) rfl (d8 (zBv X λx F=>d8 (g7 (g7 (D x F))))))
theorem qXd(X:MatchAt s.heap a p e)(u:Q (.done (.ret (.int e s.toks))) { s with toks:=s.toks+1 }):wpAny M A (Builtin.«re.Match.end» ⟨[.ref a],[]⟩) Q E s:=by unfold Builtin.«re.Match.end»;refine d8 (zMo X λx D=>?_);dsimp only;rw[D];exact d8 (wpAny_mkInt (g7 u))
theorem zCv(X:MatchAt s.heap a p e){Q:Pv}(D:Q (.int e s.toks) { s with toks:=s.toks+1 }):wpAny (model prog w) A (call (.builtin "re.Match.end") [.ref a]) Q E s:=by refine bC λF=>?_;obtain⟨o,ot,J,items,L,I,t,u,h1,h2,_⟩:=X.there;refine F (iN qIq ⟨o,h1,h2⟩ qVh ?_ (zDm _));exact qXd X ⟨_,rfl,D⟩
noncomputable def upTo(len:Nat)(i:Int):Nat:=(max 0 (if i<0 then i+len else i)).toNat
noncomputable def jI(x y:Str)(u hi:Nat):Int:=match iE x y u hi with
 |some i=>(i:Int)
 |none=>-1
theorem qLu:Gives (Builtin.«str.rfind» ⟨[.str x t,.str y u,.int i v,.int j v'],[]⟩) (.int (jI x y (upTo x.length i) (min (upTo x.length j) x.length))):=by
 show Gives (match iE x y (upTo x.length i) (min (upTo x.length j) x.length)with|some i=>retInt i|none=>(do rule "str.rfind.not-found";retInt (-1))) _;unfold jI;cases iE x y (upTo x.length i) (min (upTo x.length j) x.length)with
 |none=>exact .rule (.of_eq rfl)
 |some i=>exact .of_eq rfl
theorem qOt{Q:Pv}(D:Q (.int (jI x y (upTo x.length i) (min (upTo x.length j) x.length)) s.toks) { s with toks:=s.toks+1 }):wpAny (model prog w) A (call (.builtin "str.rfind") [.str x t,.str y u,.int i v,.int j v']) Q E s :=
 call_gives oW (eG s x t) PySem.F.entry_str_rfind (PySem.F.args_str_rfind_4 _ _ _ _) qLu D
end
end Mine.Lake.Re
namespace Mine.Lake.Re
open PySem PySem.Sre
def Reach(m:M)(Q:M->Prop)(k:Nat):Prop:=∃n,n<=k/\Q (v3 n m)
theorem Reach.here(h:Q m):Reach m Q 0:=⟨0,i5 _,h⟩
theorem Reach.bind(h:Reach m Q k)(g:∀m',Q m'->Reach m' R l):Reach m R (k+l):=ae h λn F q=>ae (g _ q) λD u r=>⟨n+D,u2 F u,by rw[xA];exact r⟩
theorem Reach.mono(h:Reach m Q k)(u:k<=l):Reach m Q l:=ae h λn D q=> ⟨n,b7 D u,q⟩
theorem Reach.step{m:M}{Q:M->Prop}{k:Nat}(u:m.outcome=none)(h:Reach m.step Q k):Reach m Q (k+1):=by refine ae h λn D q=>⟨n+1,v7 D,?_⟩;show Q (if m.outcome.isSome then m else v3 n m.step);rw[b6 (by rw[u];decide)];exact q
structure Cf where
 code:Array Nat
 text:Array Nat
 lim:Nat
 ls:Nat
noncomputable def st(c:Cf)(start pc pos handed:Nat)(om:Bool)(fs:List v9)(wt:Nat)(ans:Option Bool)(sn:Seen):M :=
 { code:=c.code,text:=c.text,lim:=c.lim,start:=start,lastStart:=c.ls,pc:=pc,pos:=pos,handed:=handed,outermost:=om,marks:=#[],frames:=fs,weight:=wt,answer:=ans,seen:=sn }
section
variable{c:Cf}{start pc pos handed wt:Nat}{om:Bool}{fs:List v9}{sn:Seen}
theorem vN(h:pc<c.code.size):(st c start pc pos handed om fs wt none sn).step=(st c start pc pos handed om fs wt none sn).exec:=by unfold M.step;rw[b6 (by show¬(none:Option Sre.Outcome).isSome=true;decide)];exact ax h rfl
set_option tactic.hygienic true in
noncomputable def exF:{F:M->Nat->M // ∀m,m.exec=F m (m.word 0)}:=by
 refine⟨?F,λm=>?h⟩
 case h=>unfold M.exec;generalize m.word 0=w;exact rfl
theorem exK(h:m.word 0=k):m.exec=exF.1 m k:=h▸exF.2 m
theorem zAw(h:pc<c.code.size)(D:c.code.getD pc 0=16)(h1:c.code.getD (pc+1) 0=d):∃u,(st c start pc pos handed om fs wt none sn).step=if pos<c.lim/\c.text.getD pos 0=d then st c start (pc+2) (pos+1) handed om fs wt none u else st c start pc pos handed om fs wt (some false) u:=by
 rw[vN h,exK (m:=st c start pc pos handed om fs wt none sn) (k:=16) D];refine⟨sn.add 16,?_⟩;show(if pos≥c.lim then _ else match accepts c.code pc (c.text.getD pos 0) (sn.add 16)with| .error F=>_| .ok (false,seen)=>_| .ok (true,seen)=>_)=_;rw[(by
  unfold accepts
  rw[D,h1];rfl:accepts c.code pc (c.text.getD pos 0) (sn.add 16)=.ok (c.text.getD pos 0==d,sn.add 16))]
 by_cases hp:pos<c.lim
 .refine(b6 (by simp[hp])).trans ?_;by_cases hd:c.text.getD pos 0=d
  .rw[d3 ⟨hp,hd⟩];have:(c.text.getD pos 0==d)=true:=e9 hd;rw[this];unfold st;congr 1;rw[(by unfold itemWidth;rw[D];rfl:itemWidth c.code pc=2)]
  .rw[b6 (λq=>hd q.2)];have:(c.text.getD pos 0==d)=false:=beq_eq_false_iff_ne.mpr hd;rw[this];rfl
 .rw[d3 (Nat.le_of_not_lt hp),b6 (λq=>hp q.1)];rfl
end
def zOe(code:Array Nat):Nat->Ln->Prop
 |_,[]=>True
 |pc,d::r=>pc<code.size/\code.getD pc 0=16/\code.getD (pc+1) 0=d/\zOe code (pc+2) r
noncomputable def vB(text:Array Nat)(lim:Nat):Nat->Ln->Bool
 |_,[]=>true
 |p,d::r=>decide (p<lim)&&text.getD p 0==d&&vB text lim (p+1) r
section
variable{c:Cf}{start pc pos handed wt:Nat}{om:Bool}{fs:List v9}{sn:Seen}
def qWg(c:Cf)(start:Nat)(fs:List v9)(wt:Nat)(b:Bool)(hd:Nat)(m:M):Prop:=∃pc pos handed om sn,m=st c start pc pos handed om fs wt (some b) sn/\(b=true->handed=hd)
theorem zAv:∀(w:Ln)(pc pos:Nat)(sn:Seen),zOe c.code pc w ->
  Reach (st c start pc pos handed om fs wt none sn) (λm=>(vB c.text c.lim pos w/\∃u,m=st c start (pc+2*w.length) (pos+w.length) handed om fs wt none u)\/(vB c.text c.lim pos w=false/\qWg c start fs wt false 0 m)) w.length:=by
 intro O;induction O with
 |nil=>exactλpc pos sn z=>⟨0,i5 _,.inl ⟨rfl,sn,rfl⟩⟩
 |cons d r N =>
  intro pc pos sn h;refine bC λF=>?_;obtain⟨h1,h2,h3,h4⟩:=h;obtain⟨u,e⟩:=zAw (start:=start) (pos:=pos) (handed:=handed) (om:=om) (fs:=fs) (wt:=wt) (sn:=sn) h1 h2 h3;refine F (Reach.step rfl ?_);rw[e];by_cases hp:pos<c.lim/\c.text.getD pos 0=d
  .rw[d3 hp];refine bC λF=>?_;obtain⟨n,L,q⟩:=N (pc+2) (pos+1) u h4;refine F (⟨n,L,?_⟩);rw[(by
    show(decide (pos<c.lim)&&c.text.getD pos 0==d&&vB c.text c.lim (pos+1) r)=_
    rw[e9 hp.1,hp.2];simp:vB c.text c.lim pos (d::r)=vB c.text c.lim (pos+1) r)]
   rcases q with⟨J,D,I⟩|q
   .refine .inl ⟨J,D,?_⟩;rw[I];congr 1
    .simp;exact i8 _ 2 (2*_)
    .simp;exact i8 _ 1 _
   .exact .inr q
  .rw[b6 hp];refine⟨0,v0 _,.inr ⟨?_,pc,pos,handed,om,u,rfl,λq=>zF1 q⟩⟩;show(decide (pos<c.lim)&&c.text.getD pos 0==d&&vB c.text c.lim (pos+1) r)=_;by_cases h1:pos<c.lim
   .have:(c.text.getD pos 0==d)=false:=by simpa usingλq=>hp ⟨h1,q⟩
    rw[this];simp
   .simp[h1]
theorem qSr(h:pc<c.code.size)(D:c.code.getD pc 0=15)(h1:pc+1+c.code.getD (pc+1) 0=t):∃u,(st c start pc pos handed om fs wt none sn).step=st c start t pos handed om fs wt none u:=by
 rw[vN h,exK (m:=st c start pc pos handed om fs wt none sn) (k:=15) D];exact⟨sn.add 15,by rw[<- h1];rfl⟩
noncomputable def bound(text:Array Nat)(lim p:Nat):Bool:=lim != 0&&((decide (p>0)&&isWordUni (text.getD (p-1) 0))!=(decide (p<lim)&&isWordUni (text.getD p 0)))
theorem qOw(h:pc<c.code.size)(F:c.code.getD pc 0=6)(h1:c.code.getD (pc+1) 0=10):∃D,(st c start pc pos handed om fs wt none sn).step=if bound c.text c.lim pos then st c start (pc+2) pos handed om fs wt none D else st c start pc pos handed om fs wt (some false) D:=by
 rw[vN h,exK (m:=st c start pc pos handed om fs wt none sn) (k:=6) F];obtain hw1:(st c start pc pos handed om fs wt none sn).word 1=10:=h1;refine⟨(sn.add 6).add 53,?_⟩;show(match M.isAt { st c start pc pos handed om fs wt none sn with seen:=sn.add 6 } (mA { st c start pc pos handed om fs wt none sn with seen:=sn.add 6 } 1)with| .error I=>_| .ok yes=>_)=_;rw[(λs'=>by
  have:mA { st c start pc pos handed om fs wt none sn with seen:=s' } 1=10:=h1
  rw[this]
  show Except.ok (c.lim != 0&&((decide (pos>0)&&isWordUni (c.text.getD (pos-1) 0))!=(decide (pos<c.lim)&&isWordUni (c.text.getD pos 0)))==true)=_
  congr 1
  unfold bound
  simp:∀s':Seen,M.isAt { st c start pc pos handed om fs wt none sn with seen:=s' } (mA { st c start pc pos handed om fs wt none sn with seen:=s' } 1)=.ok (bound c.text c.lim pos))]
 obtain e53:43+mA { st c start pc pos handed om fs wt none sn with seen:=sn.add 6 } 1=53:=by have:mA { st c start pc pos handed om fs wt none sn with seen:=sn.add 6 } 1=10:=h1;rw[this]
 show(if bound c.text c.lim pos then _ else _)=_;by_cases u:bound c.text c.lim pos=true
 .rw[d3 u,d3 u];show({ st c start pc pos handed om fs wt none sn with seen:=(sn.add 6).add (43+mA { st c start pc pos handed om fs wt none sn with seen:=sn.add 6 } 1),pc:=pc+2 }:M)=_;rw[e53];rfl
 .rw[b6 u,b6 u];show({ st c start pc pos handed om fs wt none sn with seen:=(sn.add 6).add (43+mA { st c start pc pos handed om fs wt none sn with seen:=sn.add 6 } 1),answer:=some false }:M)=_;rw[e53];rfl
theorem qVm(h:pc<c.code.size)(D:c.code.getD pc 0=1):∃u,(st c start pc pos handed om fs wt none sn).step=st c start pc pos pos om fs wt (some true) u:=by
 rw[vN h,exK (m:=st c start pc pos handed om fs wt none sn) (k:=1) D];refine⟨sn.add 1,?_⟩;show(if(om&&((false&&(pos != c.lim))||(false&&(pos==start))))=true then _ else _)=_;refine(b6 (by simp)).trans ?_;rfl
end
noncomputable def nb(alt pos:Nat)(om:Bool):v9:={ wait:=.nextBranch,pc:=alt,pos:=pos,outermost:=om }
def zJu(code:Array Nat)(E:Nat):Nat->List (Ln)->Prop
 |alt,[]=>code.getD alt 0=0
 |alt,w::r=>code.getD alt 0=2*w.length+3/\zOe code (alt+1) w/\alt+1+2*w.length<code.size/\code.getD (alt+1+2*w.length) 0=15/\alt+1+2*w.length+1+code.getD (alt+1+2*w.length+1) 0=E/\zJu code E (alt+2*w.length+3) r
def zOd(code:Array Nat)(E:Nat):Prop:=E<code.size/\code.getD E 0=6/\code.getD (E+1) 0=10/\E+2<code.size/\code.getD (E+2) 0=1
def zS(text:Array Nat)(lim p:Nat):List (Ln)->Option Nat
 | []=>none
 |w::r=>if vB text lim p w&&bound text lim (p+w.length)then some (p+w.length)else zS text lim p r
noncomputable def cost:List (Ln)->Nat
 | []=>0
 |w::r=>w.length+4+cost r
section
variable{c:Cf}{start pc pos handed wt:Nat}{om:Bool}{fs:List v9}{sn:Seen}
theorem zDq(u:wt<16777216):(st c start pc pos handed om fs wt none sn).alternative alt {}=if c.code.getD alt 0=0 then st c start pc pos handed om fs wt (some false) sn else st c start (alt+1) pos pos om (nb alt pos om::fs) (wt+1) none sn:=by
 show(if(c.code.getD alt 0==0)then _ else _)=_;by_cases h:c.code.getD alt 0=0
 .rw[d3 h,d3 (by simpa using h)];rfl
 .rw[b6 h,b6 (by simpa using h)];refine(b6 (Nat.not_lt.mpr u)).trans ?_;rfl
theorem qEz:(st c start F I u D (nb alt pos om::fs) (wt+1) (some b) sn).step=if b then st c start alt pos u om fs wt (some true) sn else(st c start alt pos u om fs wt none sn).alternative (alt+c.code.getD alt 0) {}:=by
 refine(b6 (by show¬(none:Option Sre.Outcome).isSome=true;decide)).trans ?_;show M.resume { st c start F I u D fs (wt+1-(1+0)) none sn with pc:=alt,pos:=pos,outermost:=om } (nb alt pos om) b=_;refine(by rfl:wt+1-(1+0)=wt).symm▸?_;cases b with
 |true=>rfl
 |false=>rfl
set_option tactic.hygienic true in
theorem qOv(T:zOd c.code E):∀(ws:List (Ln))(alt pc handed:Nat)(sn:Seen),zJu c.code E alt ws->wt+1<16777216 ->
  Reach ((st c start pc pos handed om fs wt none sn).alternative alt {}) (λm=>(∃e,zS c.text c.lim pos ws=some e/\qWg c start fs wt true e m)\/(zS c.text c.lim pos ws=none/\qWg c start fs wt false 0 m)) (cost ws):=by
 intro Y;induction Y with
 |nil =>intro alt pc handed sn h I;rw[zDq (by exact m9 I),d3 (show c.code.getD alt 0=0 from h)];exact⟨0,i5 _,.inr ⟨rfl,pc,pos,handed,om,sn,rfl,λq=>zF1 q⟩⟩
 |cons w r Z =>
  intro alt pc handed sn h I;refine fp h λa1 a2 a3 S a5 U=>?_;rw[zDq (by exact m9 I),b6 (by rw[a1];exact gg)];have next:∀m,(vB c.text c.lim pos w&&bound c.text c.lim (pos+w.length))=false->qWg c start (nb alt pos om::fs) (wt+1) false 0 m->Reach m (λm=>(∃e,zS c.text c.lim pos (w::r)=some e/\qWg c start fs wt true e m)\/(zS c.text c.lim pos (w::r)=none/\qWg c start fs wt false 0 m)) (1+cost r):=by
   intro m F hm;obtain⟨p',q',h',a9,u,rfl,_⟩:=hm;refine(Reach.step (k:=cost r) rfl ?_).mono (by exact v6 (m7 _ 1));rw[qEz,zX1,a1];rw[(by
    exact bc (by rw[F];decide) rfl:zS c.text c.lim pos (w::r)=zS c.text c.lim pos r)]
   rw[show alt+(2*w.length+3)=alt+2*w.length+3 by rfl];exact Z (alt+2*w.length+3) alt h' u U I
  rw[(by show w.length+4+cost r=_;simp +arith:cost (w::r)=w.length+(3+(1+cost r)))];refine(zAv (c:=c) (start:=start) (handed:=pos) (om:=om) (fs:=nb alt pos om::fs) (wt:=wt+1) w (alt+1) pos sn a2).bind λm hm=>?_;rcases hm with⟨D,u,rfl⟩|⟨F,hs⟩
  .obtain⟨L,e2⟩:=qSr (c:=c) (start:=start) (pos:=pos+w.length) (handed:=pos) (om:=om) (fs:=nb alt pos om::fs) (wt:=wt+1) (sn:=u) (pc:=alt+1+2*w.length) a3 S a5;refine((Reach.step rfl ⟨0,i5 _,e2⟩:Reach (st c start (alt+1+2*w.length) (pos+w.length) pos om (nb alt pos om::fs) (wt+1) none u) (λm=>m=st c start E (pos+w.length) pos om (nb alt pos om::fs) (wt+1) none L) 1).bind (l:=2+(1+cost r)) λm hm=>?_).mono (by simp +arith);subst hm;obtain⟨N,X⟩:=qOw (c:=c) (start:=start) (pos:=pos+w.length) (handed:=pos) (om:=om) (fs:=nb alt pos om::fs) (wt:=wt+1) (sn:=L) T.1 T.2.1 T.2.2.1;rw[show 2+(1+cost r)=(1+(1+cost r))+1 by exact gh];refine Reach.step rfl ?_;rw[X];by_cases J:bound c.text c.lim (pos+w.length)=true
   .rw[d3 J];obtain⟨O,V⟩:=qVm (c:=c) (start:=start) (pos:=pos+w.length) (handed:=pos) (om:=om) (fs:=nb alt pos om::fs) (wt:=wt+1) (sn:=N) T.2.2.2.1 T.2.2.2.2;rw[show 1+(1+cost r)=(1+cost r)+1 by exact gN (m7 (1+_) 1)];refine Reach.step rfl ?_;rw[V];rw[show 1+cost r=cost r+1 by exact gN (m7 _ 1)];refine Reach.step rfl ?_;rw[qEz,d3 rfl];exact⟨0,v0 _,.inl ⟨pos+w.length,ax (by rw[D,J];rfl) rfl,alt,pos,pos+w.length,om,O,rfl,λz=>rfl⟩⟩
   .rw[b6 J];refine(next _ (by rw[D];simpa using J) ⟨E,pos+w.length,pos,om,N,rfl,λq=>zF1 q⟩).mono (by simp)
  .exact(next m (by rw[F];rfl) hs).mono (by simp)
end
noncomputable def zZ(d:Nat):Bool:=d==32||d==9
def blk(text:Array Nat):Nat->Nat->Nat
 |0,_=>0
 |n+1,p=>if zZ (text.getD p 0)then blk text n (p+1)+1 else 0
theorem zQo:blk text (n+1) p=if zZ (text.getD p 0)then blk text n (p+1)+1 else 0:=rfl
def qDx(code:Array Nat)(i:Nat):Prop:=code.getD i 0=13/\code.getD (i+2) 0=16/\code.getD (i+2+1) 0=32/\code.getD (i+4) 0=16/\code.getD (i+4+1) 0=9/\code.getD (i+6) 0=0/\3<=code.size
theorem qFo{code:Array Nat}(D:code.getD i 0=16)(h1:code.getD (i+1) 0=d):∃u,inSet code ch (fuel+1) i yes seen=if ch=d then .ok (yes,u)else inSet code ch fuel (i+2) yes u:=by
 refine⟨seen.add (code.getD (i+0) 0),(g0 (λz=>inSet.match_1 (λq=>Except String (Bool×Seen)) z _ _ _ _ _ _ _ _ _) ((g0 (λz=>ops[z]?) D).trans rfl)).trans ?_⟩;show(if(ch==code.getD (i+1) 0)then _ else _)=_;rw[h1];by_cases h:ch=d
 .rw[d3 h,d3 (by simpa using h)]
 .rw[b6 h,b6 (by simpa using h)]
theorem qUv{code:Array Nat}(D:code.getD i 0=0):∃u,inSet code ch (fuel+1) i yes seen=.ok (!yes,u):=⟨seen.add (code.getD (i+0) 0),(g0 (λz=>inSet.match_1 (λq=>Except String (Bool×Seen)) z _ _ _ _ _ _ _ _ _) ((g0 (λz=>ops[z]?) D).trans rfl)).trans rfl⟩
theorem qWf{code:Array Nat}(B:qDx code i)(ch:Nat)(seen:Seen):∃u,accepts code i ch seen=.ok (zZ ch,u):=by
 refine bC λD=>?_;obtain⟨O,U,S,b3,I,J,T⟩:=B;obtain⟨n,N⟩:∃n,code.size=n+1+1+1:=⟨code.size-3,(fA T).symm⟩
 refine D ?_;rw[(by unfold accepts;rw[O];rfl:accepts code i ch seen=inSet code ch code.size (i+2) true seen),N];refine bC λD=>?_;obtain⟨F,e1⟩:=qFo (ch:=ch) (fuel:=n+1+1) (yes:=true) (seen:=seen) U S;obtain⟨s2,e2⟩:=qFo (ch:=ch) (fuel:=n+1) (yes:=true) (seen:=F) b3 I;obtain⟨s3,L⟩:=qUv (ch:=ch) (fuel:=n) (yes:=true) (seen:=s2) J;refine D ?_;rw[e1];by_cases h1:ch=32
 .rw[d3 h1];exact⟨F,by rw[show zZ ch=true by unfold zZ;simp[h1]]⟩
 .rw[b6 h1,show i+2+2=i+4 by rfl,e2];by_cases h2:ch=9
  .rw[d3 h2];exact⟨s2,by rw[show zZ ch=true by unfold zZ;simp[h2]]⟩
  .rw[b6 h2,show i+4+2=i+6 by rfl,L];exact⟨s3,by rw[show zZ ch=false by unfold zZ;simp[h1,h2]];rfl⟩
theorem qUd{code:Array Nat}(B:qDx code i):∀(n p found:Nat)(seen:Seen),∃u,Sre.run code text i n p found seen=.ok (found+blk text n p,u):=by
 intro I;induction I with
 |zero=>exactλp found seen=>⟨seen,rfl⟩
 |succ n F =>
  intro p found seen;obtain⟨D,e1⟩:=qWf B (text.getD p 0) seen;show∃u,(accepts code i (text.getD p 0) seen >>=_)=_;rw[e1];show∃u,(if zZ (text.getD p 0)then Sre.run code text i n (p+1) (found+1) D else pure (found,D))=_;rw[zQo];by_cases h:zZ (text.getD p 0)=true
  .rw[d3 h,d3 h];obtain⟨s2,e2⟩:=F (p+1) (found+1) D;exact⟨s2,by rw[e2];congr 2;exact i8 _ 1 _⟩
  .rw[b6 h,b6 h];exact⟨D,rfl⟩def gb (pc pos:Nat) (om:Bool) (n:Nat):v9:={ wait:=.giveBack,pc:=pc,pos:=pos,outermost:=om,count:=n }
def Rep(code:Array Nat)(pc:Nat):Prop:=pc<code.size/\code.getD pc 0=24/\code.getD (pc+1) 0=11/\code.getD (pc+2) 0=0/\code.getD (pc+3) 0=4294967295/\qDx code (pc+4)
section
variable{c:Cf}{start pc pos handed wt:Nat}{om:Bool}{fs:List v9}{sn:Seen}
theorem rep_step(R:Rep c.code pc)(hp:pos<=c.lim)(J:c.lim<4294967295)(N:wt<16777216):∃F,(st c start pc pos handed om fs wt none sn).step=st c start (pc+12) (pos+blk c.text (c.lim-pos) pos) (pos+blk c.text (c.lim-pos) pos) om (gb pc (pos+blk c.text (c.lim-pos) pos) om (blk c.text (c.lim-pos) pos)::fs) (wt+1) none F:=by
 obtain hroom:((c.lim:Int)-(pos:Int)).toNat=c.lim-pos:=by simp
 obtain hg:¬wt+1+0>16777216:=Nat.not_lt.mpr N;refine bC λD=>?_;obtain⟨L,r1,r2,r3,I,O⟩:=R;refine D ?_;rw[vN L,exK (m:=st c start pc pos handed om fs wt none sn) (k:=24) r1];refine bC λD=>?_;obtain⟨u,e1⟩:=qUd (text:=c.text) O (c.lim-pos) pos 0 ((sn.add 24).add (c.code.getD (pc+4) 0));refine D (⟨u,?_⟩);show(if((mA { st c start pc pos handed om fs wt none sn with seen:=sn.add 24 } 2:Nat):Int)>(c.lim:Int)-(pos:Int)then _ else match Sre.run c.code c.text (pc+4) (min (mA { st c start pc pos handed om fs wt none sn with seen:=sn.add 24 } 3) ((c.lim:Int)-(pos:Int)).toNat) pos 0 ((sn.add 24).add (c.code.getD (pc+4) 0))with| .error S=>_| .ok (n,seen)=>if n<mA { st c start pc pos handed om fs wt none sn with seen:=sn.add 24 } 2 then _ else _)=_;rw[show mA { st c start pc pos handed om fs wt none sn with seen:=sn.add 24 } 2=0 from r3,show mA { st c start pc pos handed om fs wt none sn with seen:=sn.add 24 } 3=4294967295 from I];rw[b6 (by exact gi hp),hroom,dX (by exact gj J)];rw[e1];show(if 0+blk c.text (c.lim-pos) pos<0 then _ else _)=_;rw[b6 (dD _),fJ];refine(b6 (hg)).trans ?_;obtain ht:∀s':Seen,mA { st c start pc (pos+blk c.text (c.lim-pos) pos) handed om fs wt none sn with seen:=s' } 1=11:=λs'=>r2;show({ st c start (pc+1+mA { st c start pc (pos+blk c.text (c.lim-pos) pos) handed om fs wt none sn with seen:=u } 1) _ _ om _ _ none u with code:=c.code }:M)=_;rw[ht];rfl
end
def zQr(ws:List (Ln)):Prop:=∀w∈ws,∃d r,w=d::r/\zZ d=false
structure Pat(code:Array Nat)(ws:List (Ln))(p0 E:Nat):Prop where
 at0:p0<code.size/\code.getD p0 0=6/\code.getD (p0+1) 0=1
 rep:Rep code (p0+2)
 br:p0+14<code.size/\code.getD (p0+14) 0=7
 alts:zJu code E (p0+15) ws
 tail:zOd code E
 words:zQr ws
section
variable{c:Cf}{start pc pos handed wt:Nat}{om:Bool}{fs:List v9}{sn:Seen}{ws:List (Ln)}{p0 E:Nat}
end
noncomputable def ns(p0 s:Nat)(om:Bool):v9:={ wait:=.nextStart,pc:=p0,pos:=s,outermost:=om }
def Fin(r:Option (Nat×Nat))(m:M):Prop:=match r with
 |some (s,e)=>m.outcome=some .matched/\m.start=s/\m.handed=e/\m.marks= #[]/\m.lastmark = -1/\m.lastindex = -1
 |none=>m.outcome=some .failed
section
variable{c:Cf}{start pc pos handed wt:Nat}{om:Bool}{fs:List v9}{sn:Seen}{ws:List (Ln)}{p0 E:Nat}
end
end Mine.Lake.Re
namespace Mine.Lake.Re
open PySem PySem.Sre PySem.Builtin.Re
section
variable{M':Model}{A:w4}{E:Pv}{s:g6}
theorem end_ok(h:Reach m (Fin r) k)(hk:k<=4*2 ^ 64) 
  (hs:∀m' p e,r=some (p,e)->m'.start=p->m'.handed=e->m'.marks= #[]->m'.lastmark = -1->m'.lastindex = -1->Q (some m') s)(I:r=none->Q none s):wpAny M' A (reRunToEnd m) Q E s:=by
 refine bC λD=>?_;obtain⟨n,F,u⟩:=h;refine D (d8 (qKs (2 ^ 64) m n (by
  cases r with
  |none=>have:(v3 n m).outcome=some .failed:=u;rw[this];rfl
  |some x=>have:(v3 n m).outcome=some .matched:=u.1;rw[this];rfl) (b7 F hk) pi (d8 (qJa _ ?_))))
 cases r with
 |none =>rw[u];exact g7 (I rfl)
 |some x =>refine bC λD=>?_;obtain⟨p,q⟩:=x;obtain⟨e,h1,h2,h3,h4,h5⟩:=u;refine D ?_;rw[e];exact g7 (hs _ p q rfl h1 h2 h3 h4 h5)
end
end Mine.Lake.Re
namespace Mine.Lake.Re
open PySem PySem.Sre PySem.Builtin.Re PyProof.Rows
end Mine.Lake.Re
namespace Mine.Lake.Re
open PySem PySem.Sre
noncomputable def one(m:M)(k:Nat):Except String (Bool×Seen)->M
 | .error u=>({ m with seen:=m.seen.add k }:M).stick u
 | .ok (false,seen)=>({ m with seen }:M).say false
 | .ok (true,seen)=>{ m with seen,pc:=m.pc+itemWidth m.code m.pc,pos:=m.pos+1 }
section
variable{m:M}
theorem zNo(h:m.word 0=k)(hk:k=2\/k=3\/k=13\/k=16):m.exec=if m.pos≥m.lim then({ m with seen:=m.seen.add k }:M).say false else one m k (accepts m.code m.pc (m.text.getD m.pos 0) (m.seen.add k)):=by
 refine(by
  rcases hk with rfl|rfl|rfl|rfl <;> exact exK h:m.exec=if m.pos≥m.lim then({ m with seen:=m.seen.add k }:M).say false else match accepts m.code m.pc (m.text.getD m.pos 0) (m.seen.add k)with
  | .error u=>({ m with seen:=m.seen.add k }:M).stick u
  | .ok (false,seen)=>({ m with seen }:M).say false
  | .ok (true,seen)=>{ m with seen,pc:=m.pc+itemWidth m.code m.pc,pos:=m.pos+1 }).trans ?_
 cases accepts m.code m.pc (m.text.getD m.pos 0) (m.seen.add k)with
 |error w=>rfl
 |ok r=>obtain⟨yes,D⟩:=r;cases yes <;> rfl
theorem zSn(h:m.word 0=1):m.exec=if(m.outermost&&((m.wholeText&&m.pos != m.lim)||(m.mustAdvance&&m.pos==m.start)))then({ m with seen:=m.seen.add 1 }:M).say false else({ m with seen:=m.seen.add 1,handed:=m.pos }:M).say true:=exK h
theorem zQi(h:m.word 0=15):m.exec={ m with seen:=m.seen.add 15,pc:=m.pc+1+m.word 1 }:=exK h
theorem zQe(h:m.word 0=7):m.exec=({ m with seen:=m.seen.add 7 }:M).alternative (m.pc+1) (m.keep m.inner.isSome):=exK h
theorem zQg(h:m.word 0=23):m.exec=({ m with seen:=m.seen.add 23,loops:=m.loops.push { pc:=m.pc,outer:=m.inner },inner:=some m.loops.size }:M).attempt { m.frame .closeLoop with loop:=m.loops.size } (m.pc+1+m.word 1) m.pos m.outermost:=exK h
theorem zQh(h:m.word 0=18):m.exec=({ m with seen:=m.seen.add 18,pc:=m.pc+1 }:M).until_ true:=exK h
theorem zSm(h:m.word 0=5)(h2:m.word 2=0):m.exec=({ m with seen:=m.seen.add 5 }:M).attempt { m.frame .lookNot with kept:=m.keep (true&&m.inner.isSome) } (m.pc+3) m.pos false:=by
 rw[(by
  exact exK h:m.exec=if m.pos<m.word 2 then{ m with seen:=m.seen.add 5,pc:=m.pc+1+m.word 1 }else({ m with seen:=m.seen.add 5 }:M).attempt { m.frame .lookNot with kept:=m.keep (true&&m.inner.isSome) } (m.pc+3) (m.pos-m.word 2) false),h2];rfl
theorem zQf(h:m.word 0=24)(h2:m.word 2=0)(hp:m.pos<=m.lim)(D:Sre.run m.code m.text (m.pc+4) (min (m.word 3) (m.lim-m.pos)) m.pos 0 ((m.seen.add 24).add (m.word 4))=.ok (n,sn)):m.exec=({ m with seen:=sn,pos:=m.pos+n }:M).afterRun .giveBack n (m.keep m.inner.isSome):=by
 rw[(by
  exact exK h:m.exec=if((m.word 2:Nat):Int)>(m.lim:Int)-m.pos then({ m with seen:=m.seen.add 24 }:M).say false else
   match Sre.run m.code m.text (m.pc+4) (min (m.word 3) ((m.lim:Int)-m.pos).toNat) m.pos 0 ((m.seen.add 24).add (m.word 4))with
   | .error u=>({ m with seen:=m.seen.add 24 }:M).stick u
   | .ok (n,seen)=>if n<m.word 2 then({ m with seen }:M).say false else({ m with seen,pos:=m.pos+n }:M).afterRun .giveBack n (m.keep m.inner.isSome)),h2,b6 (by exact jk hp),show((m.lim:Int)-m.pos).toNat=m.lim-m.pos by simp,D];rfl
end
structure Cv where
 code:Array Nat
 text:Array Nat
 lim:Nat
 start:Nat
noncomputable def K0(w:Bool):Sre.Kept:={ whole:=w }
def Mf(w:Wait)(pc pos:Nat)(om:Bool)(ct:Int)(kw:Bool)(lp:Nat)(u:Option Nat):v9:={ wait:=w,pc,pos,outermost:=om,count:=ct,kept:=K0 kw,loop:=lp,began:=u }
def Ms(c:Cv)(pc pos hd:Nat)(om:Bool)(fs:List v9)(lp:Array mY)(inn:Option Nat)(ans:Option Bool)(sn:Seen):M :=
 { code:=c.code,text:=c.text,lim:=c.lim,start:=c.start,pc,pos,handed:=hd,outermost:=om,marks:=#[],loops:=lp,inner:=inn,frames:=fs,weight:=fs.length,answer:=ans,seen:=sn }
def uX(fs:List v9):Prop:=fs.length<10000
section
variable{fs:List v9}
theorem qDd:(Ms c pc pos hd om fs lp inn a sn).keep w=K0 w:=by cases w <;> rfl
theorem back_S:(Ms c pc pos hd om fs lp inn a sn).putBack (K0 w)=Ms c pc pos hd om fs lp inn a sn:=by cases w <;> rfl
theorem qZx(I:uX fs):(Ms c pc pos hd om fs lp inn none sn).attempt (Mf w p q o ct kw l D) t u F=Ms c t u u F (Mf w p q o ct kw l D::fs) lp inn none sn:=by refine(b6 (Nat.not_lt.mpr (b7 I pi))).trans ?_;rfl
theorem yK(I:uX fs)(h:Reach (Ms c t u u F (Mf w p q o ct kw l D::fs) lp inn none sn) Q k):Reach ((Ms c pc pos hd om fs lp inn none sn).attempt (Mf w p q o ct kw l D) t u F) Q k:=by rw[qZx I];exact h
theorem jF(h:pc<c.code.size):(Ms c pc pos hd om fs lp inn none sn).step=(Ms c pc pos hd om fs lp inn none sn).exec:=(b6 (λq=>zF1 q)).trans (d3 h)
theorem qCr:(Ms c F I hd D (Mf w p q o ct kw l u::fs) lp inn (some b) sn).step=(Ms c p q hd o fs lp inn none sn).resume (Mf w p q o ct kw l u) b:=(b6 (λq=>zF1 q)).trans (g0 (λz=>M.resume { Ms c p q hd o fs lp inn none sn with weight:=z } (Mf w p q o ct kw l u) b) (gI _ 1:fs.length+1-(1+0)=fs.length))
theorem qGk(hp:pc<c.code.size)(F:c.code.getD pc 0=w)(hk:w=2\/w=3\/w=13\/w=16)(hi:itemWidth c.code pc=a)(I:pos<c.lim->∀sn,∃u,accepts c.code pc (c.text.getD pos 0) sn=.ok (b,u))(h1:pos<c.lim->b->∀sn,Reach (Ms c (pc+a) (pos+1) hd om fs lp inn none sn) Q k)(h2:¬(pos<c.lim/\b)->∀sn,Reach (Ms c pc pos hd om fs lp inn (some false) sn) Q k):Reach (Ms c pc pos hd om fs lp inn none sn) Q (k+1):=by
 refine Reach.step rfl ?_;rw[jF hp,zNo (m:=Ms c pc pos hd om fs lp inn none sn) (k:=w) F hk];by_cases D:pos<c.lim
 .obtain⟨u,e⟩:=I D (sn.add w);refine(g0 (Reach · Q k) ((b6 (Nat.not_le.mpr D):(if pos≥c.lim then({ Ms c pc pos hd om fs lp inn none sn with seen:=sn.add w }:M).say false else one (Ms c pc pos hd om fs lp inn none sn) w (accepts c.code pc (c.text.getD pos 0) (sn.add w)))=one (Ms c pc pos hd om fs lp inn none sn) w (accepts c.code pc (c.text.getD pos 0) (sn.add w))).trans (by rw[e]))).mpr ?_;cases b with
  |true =>have:=h1 D rfl u;rw[<- hi]at this;exact this
  |false=>exact h2 (λq=>zF1 q.2) u
 .exact(g0 (Reach · Q k) (d3 (Nat.not_lt.mp D))).mpr (h2 (λq=>D q.1) _)
theorem xD(hp:pc<c.code.size)(u:c.code.getD pc 0=16)(D:c.code.getD (pc+1) 0=d)(h1:pos<c.lim->c.text.getD pos 0=d->∀sn,Reach (Ms c (pc+2) (pos+1) hd om fs lp inn none sn) Q k)(h2:¬(pos<c.lim/\c.text.getD pos 0=d)->∀sn,Reach (Ms c pc pos hd om fs lp inn (some false) sn) Q k):Reach (Ms c pc pos hd om fs lp inn none sn) Q (k+1):=by
 refine qGk (w:=16) (b:=c.text.getD pos 0==d) hp u (.inr (.inr (.inr rfl))) (by unfold itemWidth;rw[u];rfl) (λz sn=>⟨sn,by unfold accepts;rw[u,D];rfl⟩) (λa b=>h1 a (eU b)) λq=>h2 λr=>q ⟨r.1,by rw[r.2];exact gE _⟩
theorem zLa(hp:pc<c.code.size)(u:c.code.getD pc 0=3)(h1:pos<c.lim->∀sn,Reach (Ms c (pc+1) (pos+1) hd om fs lp inn none sn) Q k)(h2:¬pos<c.lim->∀sn,Reach (Ms c pc pos hd om fs lp inn (some false) sn) Q k):Reach (Ms c pc pos hd om fs lp inn none sn) Q (k+1):=
 qGk (w:=3) (b:=true) hp u (.inr (.inl rfl)) (by unfold itemWidth;rw[u];rfl) (λz sn=>⟨sn,by unfold accepts;rw[u];rfl⟩) (λa z=>h1 a) λq=>h2 λr=>q ⟨r,rfl⟩
theorem qPh(hp:pc<c.code.size)(u:c.code.getD pc 0=15)(D:pc+1+c.code.getD (pc+1) 0=t)(h:∀sn,Reach (Ms c t pos hd om fs lp inn none sn) Q k):Reach (Ms c pc pos hd om fs lp inn none sn) Q (k+1):=by refine Reach.step rfl ?_;rw[jF hp,zQi (m:=Ms c pc pos hd om fs lp inn none sn) u];subst D;exact h _
theorem zOc(u:c.code.getD alt 0=0):(Ms c pc pos hd om fs lp inn none sn).alternative alt (K0 kw)=Ms c pc pos hd om fs lp inn (some false) sn:=d3 (by show(c.code.getD alt 0==0)=true;rw[u];rfl)
theorem qRp(D:c.code.getD alt 0≠0)(u:uX fs):(Ms c pc pos hd om fs lp inn none sn).alternative alt (K0 kw)=Ms c (alt+1) pos pos om (Mf .nextBranch alt pos om 0 kw 0 none::fs) lp inn none sn:=(b6 (by show¬(c.code.getD alt 0==0)=true;simpa using D)).trans (qZx u)
theorem qLo(hp:pc<c.code.size)(u:c.code.getD pc 0=7)(D:c.code.getD (pc+1) 0≠0)(F:uX fs)(h:∀sn,Reach (Ms c (pc+2) pos pos om (Mf .nextBranch (pc+1) pos om 0 inn.isSome 0 none::fs) lp inn none sn) Q k):Reach (Ms c pc pos hd om fs lp inn none sn) Q (k+1):=by refine Reach.step rfl ?_;rw[jF hp,zQe (m:=Ms c pc pos hd om fs lp inn none sn) u,qDd];have:=h (sn.add 7);rw[<- qRp (pc:=pc) (hd:=hd) (kw:=inn.isSome) D F]at this;exact this
theorem zDs(I:alt+c.code.getD alt 0=t)(u:uX fs)(h1:c.code.getD t 0≠0->Reach (Ms c (t+1) pos pos om (Mf .nextBranch t pos om 0 kw 0 none::fs) lp inn none sn) Q k)(h2:c.code.getD t 0=0->Reach (Ms c alt pos hd om fs lp inn (some false) sn) Q k):Reach (Ms c D F hd J (Mf .nextBranch alt pos om 0 kw 0 none::fs) lp inn (some false) sn) Q (k+1):=by
 refine Reach.step rfl ?_;rw[qCr];subst I;show Reach (((Ms c alt pos hd om fs lp inn none sn).putBack (K0 kw)).alternative (alt+c.code.getD alt 0) (K0 kw)) Q k;rw[back_S];by_cases e:c.code.getD (alt+c.code.getD alt 0) 0=0
 .rw[zOc e];exact h2 e
 .rw[qRp e u];exact h1 e
noncomputable def spn(f:Nat->Bool)(text:Array Nat):Nat->Nat->Nat
 |0,_=>0
 |n+1,p=>if f (text.getD p 0)then spn f text n (p+1)+1 else 0
theorem qQd{code:Array Nat}(F:∀ch sn,∃u,accepts code i ch sn=.ok (f ch,u)):∀(n p found:Nat)(sn:Seen),∃u,Sre.run code text i n p found sn=.ok (found+spn f text n p,u):=by
 intro J;induction J with
 |zero=>exactλp found sn=>⟨sn,rfl⟩
 |succ n I =>
  intro p found sn;obtain⟨D,e1⟩:=F (text.getD p 0) sn;show∃u,(accepts code i (text.getD p 0) sn >>=_)=_;rw[e1];show∃u,(if f (text.getD p 0)then Sre.run code text i n (p+1) (found+1) D else pure (found,D))=.ok (found+(if f (text.getD p 0)then spn f text n (p+1)+1 else 0),u);by_cases h:f (text.getD p 0)=true
  .rw[d3 h,d3 h];obtain⟨s2,e2⟩:=I (p+1) (found+1) D;exact⟨s2,by rw[e2,i7,m7 1]⟩
  .rw[b6 h,b6 h];exact⟨D,rfl⟩
structure RepAt(code:Array Nat)(pc w N:Nat)(f:Nat->Bool):Prop where
 lt:pc<code.size
 op:code.getD pc 0=24
 skip:code.getD (pc+1) 0=w
 least:code.getD (pc+2) 0=0
 most:code.getD (pc+3) 0=N
 acc:∀ch sn,∃sn',accepts code (pc+4) ch sn=.ok (f ch,sn')
theorem wM(R:RepAt c.code pc w N f)(hp:pos<=c.lim)(I:pc+1+w=t)(F:spn f c.text (min N (c.lim-pos)) pos=n)(D:uX fs)(h:∀sn,Reach (Ms c t (pos+n) (pos+n) om (Mf .giveBack pc (pos+n) om n inn.isSome 0 none::fs) lp inn none sn) Q k):Reach (Ms c pc pos hd om fs lp inn none sn) Q (k+1):=by
 refine Reach.step rfl (bf (qQd (text:=c.text) R.acc (min N (c.lim-pos)) pos 0 ((sn.add 24).add (c.code.getD (pc+4) 0))) λu e1=>?_);rw[fJ,F]at e1;rw[jF R.lt,zQf (m:=Ms c pc pos hd om fs lp inn none sn) (n:=n) (sn:=u) R.op R.least hp (by show Sre.run c.code c.text (pc+4) (min (c.code.getD (pc+3) 0) (c.lim-pos)) pos 0 _=_;rw[R.most];exact e1),qDd];subst I;obtain h:=h u;rw[<- R.skip]at h;exact yK D h
theorem zQv{n:Nat}(R:RepAt c.code pc w N f)(L:pc+1+w=t)(F:uX fs)(D:n=0->Reach (Ms c pc pos hd om fs lp inn (some false) sn) Q k)(h1:∀m,n=m+1->Reach (Ms c t (pos-1) (pos-1) om (Mf .giveBack pc (pos-1) om m kw 0 none::fs) lp inn none sn) Q k):Reach (Ms c I J hd u (Mf .giveBack pc pos om n kw 0 none::fs) lp inn (some false) sn) Q (k+1):=by
 refine Reach.step rfl ?_;rw[qCr];show Reach (if(n:Int)-1<((c.code.getD (pc+2) 0:Nat):Int)then((Ms c pc pos hd om fs lp inn none sn).putBack (K0 kw)).say false else rB { (Ms c pc pos hd om fs lp inn none sn).putBack (K0 kw)with pos:=pos-1 } .giveBack ((n:Int)-1) (K0 kw)) Q k;refine R.least.symm▸back_S.symm▸?_;cases n with
 |zero =>rw[d3 pi];exact D rfl
 |succ m =>rw[(by rw[Int.natCast_succ];exact Int.add_sub_cancel _ 1:((m+1:Nat):Int)-1=(m:Int)),b6 (by exact Int.not_lt.mpr (u0 m))];subst L;obtain h1:=h1 m rfl;obtain h1:=R.skip.symm▸h1;exact yK F h1
theorem qIb(hp:pc<c.code.size)(D:c.code.getD pc 0=23)(F:pc+1+c.code.getD (pc+1) 0=t)(u:uX fs)(h:∀sn,Reach (Ms c t pos pos om (Mf .closeLoop pc pos om 0 false lp.size none::fs) (lp.push { pc:=pc,outer:=inn }) (some lp.size) none sn) Q k):Reach (Ms c pc pos hd om fs lp inn none sn) Q (k+1):=by refine Reach.step rfl ?_;rw[jF hp,zQg (m:=Ms c pc pos hd om fs lp inn none sn) D];subst F;exact yK u (h _)
theorem yA(hp:pc<c.code.size)(J:c.code.getD pc 0=18)(F:(Ms c pc pos hd om fs lp (some i) none sn).loopAt i=l)(I:c.code.getD (l.pc+2) 0=0)(hc :-1<=l.count)(D:uX fs)(h1:(l.count+1<((c.code.getD (l.pc+3) 0:Nat):Int)\/c.code.getD (l.pc+3) 0=maxRepeat)/\l.began≠some pos->∀sn,Reach (Ms c (l.pc+4) pos pos om (Mf .maxMore (pc+1) pos om (l.count+1) true i l.began::fs) (lp.modify i λl'=>{ l' with count:=l.count+1,began:=some pos }) (some i) none sn) Q k)(h2:¬((l.count+1<((c.code.getD (l.pc+3) 0:Nat):Int)\/c.code.getD (l.pc+3) 0=maxRepeat)/\l.began≠some pos)->∀sn,Reach (Ms c (pc+1) pos pos om (Mf .maxTail (pc+1) pos om (l.count+1) false i none::fs) lp l.outer none sn) Q k):Reach (Ms c pc pos hd om fs lp (some i) none sn) Q (k+1):=by
 refine Reach.step rfl ?_;rw[jF hp,zQh (m:=Ms c pc pos hd om fs lp (some i) none sn) J];show Reach (M.until_ (Ms c (pc+1) pos hd om fs lp (some i) none (sn.add 18)) true) Q k;have u:(Ms c (pc+1) pos hd om fs lp (some i) none (sn.add 18)).loopAt i=l:=F;show Reach (if((Ms c (pc+1) pos hd om fs lp (some i) none (sn.add 18)).loopAt i).count+1<((c.code.getD (((Ms c (pc+1) pos hd om fs lp (some i) none (sn.add 18)).loopAt i).pc+2) 0:Nat):Int)then _ else _) Q k;rw[u,I,b6 (by show¬(l.count+1<0);exact jl hc)];show Reach (if((decide (l.count+1<((c.code.getD (l.pc+3) 0:Nat):Int))||c.code.getD (l.pc+3) 0==maxRepeat)&&l.began != some pos)=true then _ else _) Q k;by_cases e:(l.count+1<((c.code.getD (l.pc+3) 0:Nat):Int)\/c.code.getD (l.pc+3) 0=maxRepeat)/\l.began≠some pos
 .rw[d3 (by rw[i6,eS,n8,w6,oX];exact e),qDd];unfold M.round;rw[u];exact yK D (h1 e _)
 .rw[b6 (by rw[i6,eS,n8,w6,oX];exact e)];unfold M.afterLoop;refine u.symm▸?_;exact yK D (h2 e _)
theorem zJr(F:((lp.modify i λl=>{ l with began:=D }).modify i λl=>{ l with count:=ct-1 })=lp')(I:(lp'.getD i { pc:=0,outer:=none }).outer=u)(N:uX fs)(h:Reach (Ms c pc pos pos om (Mf .maxTail pc pos om ct false i none::fs) lp' u none sn) Q k):Reach (Ms c J L hd O (Mf .maxMore pc pos om ct true i D::fs) lp inn (some false) sn) Q (k+1):=by
 refine Reach.step rfl ?_;rw[qCr];subst F I;exact yK N h
theorem zSv(h:Reach (Ms c pc pos hd om fs lp (some i) (some false) sn) Q k):Reach (Ms c D F hd u (Mf .maxTail pc pos om ct false i none::fs) lp inn (some false) sn) Q (k+1):=by refine Reach.step rfl ?_;rw[qCr];exact h
theorem zSw(D:(lp.getD i { pc:=0,outer:=none }).outer=u)(h:Reach (Ms c pc pos hd om fs lp.pop u (some false) sn) Q k):Reach (Ms c F I hd J (Mf .closeLoop pc pos om 0 false i none::fs) lp inn (some false) sn) Q (k+1):=by refine Reach.step rfl ?_;rw[qCr];subst D;exact h
theorem zQs(hp:pc<c.code.size)(u:c.code.getD pc 0=5)(h2:c.code.getD (pc+2) 0=0)(D:uX fs)(h:∀sn,Reach (Ms c (pc+3) pos pos false (Mf .lookNot pc pos om 0 inn.isSome 0 none::fs) lp inn none sn) Q k):Reach (Ms c pc pos hd om fs lp inn none sn) Q (k+1):=by refine Reach.step rfl ?_;rw[jF hp,zSm (m:=Ms c pc pos hd om fs lp inn none sn) u h2,qDd];exact yK D (h _)
theorem zQt(h:Reach (Ms c pc pos hd om fs lp inn (some false) sn) Q k):Reach (Ms c D F hd u (Mf .lookNot pc pos om 0 kw 0 none::fs) lp inn (some true) sn) Q (k+1):=by refine Reach.step rfl ?_;rw[qCr];exact h
theorem zQu(I:pc+1+c.code.getD (pc+1) 0=t)(h:Reach (Ms c t pos hd om fs lp inn none sn) Q k):Reach (Ms c D F hd u (Mf .lookNot pc pos om 0 kw 0 none::fs) lp inn (some false) sn) Q (k+1):=by refine Reach.step rfl ?_;rw[qCr];subst I;show Reach ({ (Ms c pc pos hd om fs lp inn none sn).putBack (K0 kw)with pc:=_ }:M) Q k;rw[back_S];exact h
theorem qAn(hp:pc<c.code.size)(u:c.code.getD pc 0=1)(h:∀sn,Reach (Ms c pc pos pos om fs lp inn (some true) sn) Q k):Reach (Ms c pc pos hd om fs lp inn none sn) Q (k+1):=by refine Reach.step rfl ?_;rw[jF hp,zSn (m:=Ms c pc pos hd om fs lp inn none sn) u];show Reach (if(om&&((false&&(pos != c.lim))||(false&&(pos==c.start))))=true then _ else _) Q k;rw[b6 (by simp)];exact h _
def EndS(st:Nat)(r:Option Nat)(m:M):Prop:=m.start=st/\m.lastindex = -1/\match r with
 |some e=>m.outcome=some .matched/\m.handed=e
 |none=>m.outcome=some .failed
noncomputable def okY(f:v9):Bool:=match f.wait with
 | .nextBranch| .giveBack| .closeLoop| .maxMore| .maxTail=>true
 |_=>false
theorem zDy:∀(fs:List v9)(m:M),m.frames=fs->m.answer=some true->m.outcome=none->m.lastindex = -1->fs.all okY->Reach m (EndS m.start (some m.handed)) (fs.length+1):=by
 intro I;induction I with
 |nil =>
  intro m h1 h2 h3 h4 _;refine Reach.step h3 (Reach.here ?_);rw[(by
   unfold M.step
   rw[h3,h2,h1];rfl:m.step={ m with outcome:=some .matched })]
  exact⟨rfl,h4,rfl,rfl⟩
 |cons f fs u =>
  intro m h1 h2 h3 h4 h5;rw[dS,i6]at h5;obtain⟨w,p,q,o,ct,D,l,F⟩:=f;refine Reach.step h3 ?_;rw[(by
   unfold M.step
   rw[h3,h2,h1];rfl:m.step=M.resume { m with answer:=none,frames:=fs,weight:=m.weight-(1+D.marks.size),pc:=p,pos:=q,outermost:=o } ⟨w,p,q,o,ct,D,l,F⟩ true)]
  cases w with
  |nextBranch=>exact u _ rfl rfl h3 h4 h5.2
  |giveBack=>exact u _ rfl rfl h3 h4 h5.2
  |closeLoop=>exact u _ rfl rfl h3 h4 h5.2
  |maxMore=>exact u _ rfl rfl h3 h4 h5.2
  |maxTail=>exact u _ rfl rfl h3 h4 h5.2
  |_=>exact zF1 h5.1theorem R_yes (h:fs.all okY=true):Reach (Ms c pc pos hd om fs lp inn (some true) sn) (EndS c.start (some hd)) (fs.length+1):=zDy fs _ rfl rfl rfl rfl h
theorem qIc:Reach (Ms c pc pos hd om [] lp inn (some false) sn) (EndS c.start none) 1:=Reach.step rfl (Reach.here ⟨rfl,rfl,rfl⟩)
theorem match_of{code text:Array Nat}{p q:Nat}{r:Option Nat}(u:p+(header code).1<=q)(h:∀sn,Reach (Ms ⟨code,text,q,p⟩ (header code).2 p p true [] #[] none none sn) (EndS p r) 20000):qS code text p q=some (r.map λe=>(p,e)):=by
 refine ck (h (if(header code).2==0 then{}else({}:Seen).add 14)) λn D h1 h2 h3=>?_;unfold qS zAs;rw[(by
  show(if((header code).1 != 0&&decide (p<=q)&&decide (q-p<(header code).1))=true then _ else _)=_
  rw[b6]
  .rfl
  .rw[i6,n8]
   exactλz=>by have:=z.2;lia:forMatch code text 0 p q false false=Ms ⟨code,text,q,p⟩ (header code).2 p p true [] #[] none none (if(header code).2==0 then{}else({}:Seen).add 14)),(dT D).symm,xA,zB (by
  clear u h
  cases r with
  |none=>rw[h3];rfl
  |some e=>rw[h3.1];rfl)]
 generalize v3 n _=m at h1 h2 h3;unfold qLl;clear u h;cases r with
 |none=>rw[h3];rfl
 |some e =>rw[h3.1];rw[d3 h2,h1,h3.2];rfl
theorem kY{code:Array Nat}(D:(header code).1≠0)(hp:p<=q)(u:q-p<(header code).1):qS code text p q=some none:=by
 refine ck (by
  refine⟨_,d3 ?_,rfl,rfl,rfl⟩
  rw[i6,i6]
  exact⟨⟨bne_iff_ne.mpr D,e9 hp⟩,e9 u⟩:∃m,forMatch code text 0 p q false false=m/\m.outcome=none/\m.answer=some false/\m.frames=[]) λm e h1 h2 h3=>?_
 obtain e2:m.step.outcome=some .failed:=by unfold M.step;rw[h1,h2,h3];rfl
 unfold qS zAs;rw[e];show qLl (if m.outcome.isSome then m else v3 19999 m.step)=_;rw[h1,zX1,zB (by rw[e2];rfl)];unfold qLl;rw[e2]
end
end Mine.Lake.Re
namespace Mine.Lake
open PySem PySem.W PyProof.Rows
inductive X where
 |none
 |bool(b:Bool)
 |int(i:Int)
 |str(s:Str)
 |v(x:Str)
 |cv(x:Str)
 |g(x:Str)
 |bin(op:Operator)(a b:X)
 |neg(a:X)
 |not(a:X)
 |cmp(op:CmpOp)(a b:X)
 |and(a b:X)
 |or(a b:X)
 |ite(c a b:X)
 |idx(a i:X)
 |slc(a lo hi:X)
 |attr(o:X)(f:Str)
 |list(es:X)
 |tup(es:X)
 |nil
 |cons(a b:X)
 |call(f as:X)
 |m(o:X)(m:Str)(as:X)
 |comp(elt:X)(x:Str)(it cond:X)
 |comp2(elt:X)(x y:Str)(it:X)
instance:Coe String X:=⟨λs=>.v s⟩
abbrev qc(a:X):X:=.cons a .nil
abbrev qd(a:X):X:=.call (.g "len") (.cons a .nil)
abbrev qe(a:Str):X:=.attr "self" a
abbrev qf(a:X)(n:Int):X:=.bin .Add a (.int n)
inductive S where
 |brk
 |expr(e:X)
 |a(x:Str)(e:X)
 |own(x:Str)(e:X)
 |asgC(x:Str)(e:X)
 |setA(o:X)(f:Str)(e:X)
 |ret(e:X)
 |ite(c:X)(a b:S)
 |loop(n:Nat)(c:X)(b o:S)
 |each(x:Str)(it:X)(b:S)
 |assert(e:X)
 |nil
 |seq(a b:S)
 |asg2(x y:Str)(e:X)
 |cont
 |ret0
 |asgs(x y:Str)(e:X)
 |ownA(o:X)(f x:Str)(e:X)
 |aug(x:Str)(e:X)
 |setA2(o:X)(f:Str)(o':X)(f':Str)(e:X)
 |delL(x:Str)
 |eachC(x:Str)(it:X)(b:S)
 |sq(x tn:Str)(ps:List (Str×Str))(b:S)
noncomputable def zF(x:Str):Bool:=x != ("__debug__":Str)&&x != ("__classdict__":Str)
def qRv(e:Expr):Prop:=∀(attr:Str)(env:Env)(whole:Sem j7),attributeBase e attr env whole=whole
noncomputable def qBq(e:Expr):Bool:=match e with
 | .Slice ..=>true
 |_=>false
set_option backward.match.sparseCases true in
noncomputable def qDi(e:Expr):Bool:=match e with
 | .Starred ..=>true
 |_=>false
noncomputable def xC(e:Expr):Bool:=match e with
 | .Set ..=>true
 |_=>false
def qGp(a b:Expr):Bool:=!qDi a&&!qDi b&&!(foldedForSure 8 a&&foldedForSure 8 b)&&!(constantsAlone 8 a&&constantsAlone 8 b)
noncomputable def xG(e:Expr):Bool:=match e with
 | .ListComp ..| .SetComp ..| .DictComp ..=>true
 |_=>false
inductive Ph where
 |e(x:Expr)
 |none
 |es(l:List Expr)
 |an(l:List Expr)
 |or(l:List Expr)
 |cond(l:List Expr)
noncomputable def Ph.ofO:Option Expr->Ph
 |some y=>.e y
 |Option.none=>.none
noncomputable def Ph.ofAnd:List Expr->Ph
 | [y]=>.e y
 |l=>.an l
noncomputable def Ph.ofOr:List Expr->Ph
 | [y]=>.e y
 |l=>.or l
noncomputable def Ph.ofCond:List Expr->Ph
 | [y]=>.e y
 |l=>.cond l
noncomputable def xP(x:Str)(sc cs:Scope):Bool:=cs.kind == .function&&cs.names.lookup x==some .local &&
 cs.names.all λp=>p.2 != .cell&&(p.2 != .local||cs.names.lookup p.1==some .local)&&(p.2 != .free||sc.names.lookup p.1==some .cell||sc.names.lookup p.1==some .free)
def qCv(x y:Str)(sc cs:Scope):Bool:=xP x sc cs&&cs.names.lookup y==some .local&&x != y
noncomputable def distinct:List Str->Bool
 | []=>true
 |x::r=>r.all (λy=>y != x)&&distinct r
noncomputable def keyed(names:List (Str×dE)):Bool:=match names with
 | []=>true
 |(x,_)::r=>r.all (λp=>p.1 != x)&&keyed r
theorem zPr{α:Type}{l:List α}(h:l.length=1):∃a,l=[a]:=List.length_eq_one_iff.mp h
theorem zPq{α:Type}{l:List α}(h:l.length=2):∃a b,l=[a,b]:=by
 cases l with
 |nil=>cases h
 |cons a r=>obtain⟨b,rfl⟩:=zPr (mQ h);exact⟨a,b,rfl⟩
theorem zRy{α:Type}{l:List α}(h:l.length=3):∃a b c,l=[a,b,c]:=by
 cases l with
 |nil=>cases h
 |cons a r=>obtain⟨b,c,rfl⟩:=zPq (mQ h);exact⟨a,b,c,rfl⟩
class inductive Ok:X->Scope->Ph->Prop
 |none{sc k p}:Ok .none sc (.e (.Constant .none k p))
 |none'{sc}:Ok .none sc .none
 |bool{sc b k p}:Ok (.bool b) sc (.e (.Constant (.bool b) k p))
 |tt{sc}:Ok (.bool true) sc (.cond [])
 |int{sc i k p}:Ok (.int i) sc (.e (.Constant (.int i) k p))
 |str{sc k p}{s:Str}:(decide (s.length<=j0)&&bS s)=true->Ok (.str s) sc (.e (.Constant (.str s) k p))
 |v{sc x p}:(zF x&&sc.names.lookup x==some .local)=true->Ok (.v x) sc (.e (.Name x p))
 |cv{sc x p}:(zF x&&(sc.names.lookup x==some .cell||sc.names.lookup x==some .free))=true->Ok (.cv x) sc (.e (.Name x p))
 |g{sc x p}:(zF x&&sc.names.lookup x==some .globalImplicit)=true->Ok (.g x) sc (.e (.Name x p))
 |bin{sc op a b l r p}:Ok a sc (.e l)->Ok b sc (.e r)->Ok (.bin op a b) sc (.e (.BinOp l op r p))
 |neg{sc a e p}:Ok a sc (.e e)->Ok (.neg a) sc (.e (.UnaryOp .USub e p))
 |not{sc a e p}:Ok a sc (.e e)->Ok (.not a) sc (.e (.UnaryOp .Not e p))
 |cmp{sc op a b l r p}:Ok a sc (.e l)->Ok b sc (.e r)->behindInMarks op r=false->Ok (.cmp op a b) sc (.e (.Compare l [op] [r] p))
 |and{sc a b e es p}:Ok a sc (.e e)->Ok b sc (.ofAnd es)->Ok (.and a b) sc (.e (.BoolOp .And (e::es) p))
 |and'{sc a b e es}:Ok a sc (.e e)->Ok b sc (.ofAnd es)->Ok (.and a b) sc (.an (e::es))
 |or{sc a b e es p}:Ok a sc (.e e)->Ok b sc (.ofOr es)->Ok (.or a b) sc (.e (.BoolOp .Or (e::es) p))
 |or'{sc a b e es}:Ok a sc (.e e)->Ok b sc (.ofOr es)->Ok (.or a b) sc (.or (e::es))
 |ite{sc c a b t x y p}:Ok c sc (.e t)->Ok a sc (.e x)->Ok b sc (.e y)->Ok (.ite c a b) sc (.e (.IfExp t x y p))
 |idx{sc a i v sl p}:Ok a sc (.e v)->Ok i sc (.e sl)->qBq sl=false->Ok (.idx a i) sc (.e (.Subscript v sl p))
 |slc{sc a lo hi v l h p q}:Ok a sc (.e v)->Ok lo sc (.ofO l)->Ok hi sc (.ofO h)->Ok (.slc a lo hi) sc (.e (.Subscript v (.Slice l h Option.none q) p))
 |attr{sc o f e p}:Ok o sc (.e e)->qRv e->Ok (.attr o f) sc (.e (.Attribute e f p))
 |list{sc es l p}:Ok es sc (.es l)->Ok (.list es) sc (.e (.List l p))
 |tup{sc es l k p}:Ok es sc (.es l)->Ok (.tup es) sc (.e (.Tuple l k p))
 |nil{sc}:Ok .nil sc (.es [])
 |cons{sc a b e r}:Ok a sc (.e e)->Ok b sc (.es r)->qDi e=false->Ok (.cons a b) sc (.es (e::r))
 |call{sc f as n p l q}:Ok f sc (.e (.Name n p))->Ok as sc (.es l)->Ok (.call f as) sc (.e (.Call (.Name n p) l [] q))
 |m{sc o m as e ap l q}:Ok o sc (.e e)->Ok as sc (.es l)->qRv e->(decide (l.length<30)&&ap.endLine==q.line)=true->Ok (.m o m as) sc (.e (.Call (.Attribute e m ap) l [] q))
 |comp{sc elt x it cond e yp i ifs cs p}:Ok it sc (.e i)->Ok elt cs (.e e)->Ok cond cs (.ofCond ifs)->xP x sc cs=true->xC i=false->Ok (.comp elt x it cond) sc (.e (.ListComp e [⟨.Name x yp,i,ifs,0⟩] cs p))
 |comp2{sc elt x y it e xp yp tp k i cs p}:Ok it sc (.e i)->Ok elt cs (.e e)->qCv x y sc cs=true->xC i=false->Ok (.comp2 elt x y it) sc (.e (.ListComp e [⟨.Tuple [.Name x xp,.Name y yp] k tp,i,[],0⟩] cs p))
noncomputable def zAx(a b:Str):Bool:=(eO ⟨#[]⟩ a 0 0 1).isEmpty&&!(a==b)
class inductive Reps  (x:Str):List (Str×Str)->List Stmt->List Stmt->Prop
 |nil{r}:Reps x [] r r
 |cons{a b ps q q2 ap p1 p2 r p k1 k2 l l'}:(zAx a b&&decide (a.length<=j0)&&decide (b.length<=j0)&&ap.endLine==r.line)=true->Reps x ps l l' ->
  Reps x ((a,b)::ps) (.Assign [.Name x q] (.Call (.Attribute (.Name x q2) "replace" ap) [.Constant (.str a) k1 p1,.Constant (.str b) k2 p2] [] r) p::l) l'
inductive Pt where
 |s(x:Stmt)
 |l(x:List Stmt)
class inductive TieS:S->Scope->Pt->Prop
 |brk{sc p}:TieS .brk sc (.s (.Break p))
 |expr{sc e v p}:Ok e sc (.e v)->xG v=false->TieS (.expr e) sc (.s (.Expr v p))
 |asgK{sc x elt y it cond q e yp i ifs cs lp p}:sc.names.lookup x=some .local->Ok it sc (.e i)->Ok elt cs (.e e)->Ok cond cs (.ofCond ifs)->xP y sc cs=true->xC i=false->TieS (.a x (.comp elt y it cond)) sc (.s (.Assign [.Name x q] (.ListComp e [⟨.Name y yp,i,ifs,0⟩] cs lp) p))
 |asgCK{sc x elt y it cond q e yp i ifs cs lp p}:sc.names.lookup x=some .cell->Ok it sc (.e i)->Ok elt cs (.e e)->Ok cond cs (.ofCond ifs)->xP y sc cs=true->xC i=false->TieS (.asgC x (.comp elt y it cond)) sc (.s (.Assign [.Name x q] (.ListComp e [⟨.Name y yp,i,ifs,0⟩] cs lp) p))
 |a{sc x e q v p}:sc.names.lookup x=some .local->Ok e sc (.e v)->xG v=false->TieS (.a x e) sc (.s (.Assign [.Name x q] v p))
 |own{sc x e q l p r}:sc.names.lookup x=some .local->Ok e sc (.es l)->TieS (.own x (.list e)) sc (.s (.Assign [.Name x q] (.List l r) p))
 |asgC{sc x e q v p}:sc.names.lookup x=some .cell->Ok e sc (.e v)->xG v=false->TieS (.asgC x e) sc (.s (.Assign [.Name x q] v p))
 |setA{sc o f e t q v p}:Ok o sc (.e t)->Ok e sc (.e v)->xG v=false->TieS (.setA o f e) sc (.s (.Assign [.Attribute t f q] v p))
 |ret{sc e v p}:Ok e sc (.e v)->TieS (.ret e) sc (.s (.Return (some v) p))
 |ite{sc c a b t x y p}:Ok c sc (.e t)->TieS a sc (.l x)->TieS b sc (.l y)->TieS (.ite c a b) sc (.s (.If t x y p))
 |loop{sc n c b o t x y p}:Ok c sc (.e t)->TieS b sc (.l x)->TieS o sc (.l y)->TieS (.loop n c b o) sc (.s (.While t x y p))
 |each{sc x it b q i z p}:sc.names.lookup x=some .local->Ok it sc (.e i)->TieS b sc (.l z)->xC i=false->TieS (.each x it b) sc (.s (.For (.Name x q) i z [] p))
 |assert{sc e t p}:Ok e sc (.e t)->TieS (.assert e) sc (.s (.Assert t Option.none p))
 |nil{sc}:TieS .nil sc (.l [])
 |seq{sc a b x r}:TieS a sc (.s x)->TieS b sc (.l r)->TieS (.seq a b) sc (.l (x::r))
 |asg2{sc x y e aI aJ k q g as ks r p}:sc.names.lookup x=some .local->sc.names.lookup y=some .local->Ok e sc (.e (.Call g as ks r))->TieS (.asg2 x y e) sc (.s (.Assign [.Tuple [.Name x aI,.Name y aJ] k q] (.Call g as ks r) p))
 |aug{sc x e q v p}:sc.names.lookup x=some .local->Ok e sc (.e v)->TieS (.aug x e) sc (.s (.AugAssign (.Name x q) .Add v p))
 |asg2s{sc x y e aI aJ k q a b k' r p}:sc.names.lookup x=some .local->sc.names.lookup y=some .local->Ok e sc (.e (.Tuple [a,b] k' r))->qGp a b=true->(x != y&&aI.line==aJ.line)=true->TieS (.asg2 x y e) sc (.s (.Assign [.Tuple [.Name x aI,.Name y aJ] k q] (.Tuple [a,b] k' r) p))
 |cont{sc p}:TieS .cont sc (.s (.Continue p))
 |ret0{sc p}:TieS .ret0 sc (.s (.Return Option.none p))
 |asgs{sc x y e aI aJ v p}:sc.names.lookup x=some .local->sc.names.lookup y=some .local->Ok e sc (.e v)->xG v=false->TieS (.asgs x y e) sc (.s (.Assign [.Name x aI,.Name y aJ] v p))
 |ownA{sc o f x es t aI aJ l r p}:sc.names.lookup x=some .local->Ok o sc (.e t)->Ok es sc (.es l)->TieS (.ownA o f x (.list es)) sc (.s (.Assign [.Attribute t f aI,.Name x aJ] (.List l r) p))
 |setA2{sc o f o' f' e t t' aI aJ k q a b k' r p}:Ok o sc (.e t)->Ok o' sc (.e t')->Ok e sc (.e (.Tuple [a,b] k' r))->TieS (.setA2 o f o' f' e) sc (.s (.Assign [.Tuple [.Attribute t f aI,.Attribute t' f' aJ] k q] (.Tuple [a,b] k' r) p))
 |delL{sc x q bG k bH bI p}:(zF x&&sc.names.lookup x==some .local)=true->TieS (.delL x) sc (.s (.Delete [.Subscript (.Name x q) (.UnaryOp .USub (.Constant (.int 1) k bG) bH) bI] p))
 |eachC{sc x it b q i z p}:sc.names.lookup x=some .cell->Ok it sc (.e i)->TieS b sc (.l z)->xC i=false->TieS (.eachC x it b) sc (.s (.For (.Name x q) i z [] p))
 |sq{sc x tn ps b q q2 ap p1 r p l l'}:(zF x&&sc.names.lookup x==some .local)=true->Ok (.g tn) sc (.e (.Name tn p1))->ap.endLine=r.line->Reps x ps l l'->TieS b sc (.l l') ->
  TieS (.sq x tn ps b) sc (.l (.Assign [.Name x q] (.Call (.Attribute (.Name x q2) "translate" ap) [.Name tn p1] [] r) p::l))
set_option genCtorIdx true in
inductive V where
 |none
 |bool(b:Bool)
 |int(i:Int)
 |str(s:Str)
 |list(xs:List V)
 |tup(xs:List V)
 |ref(k:Nat)
 |rng(a b c:Int)
 |mt(p e:Nat)
 |bnd(k:Nat)
 |top(v:j7)
set_option genCtorIdx true in
inductive O where
 |list(xs:List V)
 |inst(C:Addr)(d:Nat)
 |dict(fs:List (Str×V))
 |cell(v:Option V)
structure Wd where
 ρ:Nat->Nat
 fz:Nat->Option Obj
noncomputable def zM(a:Addr):Obj:={ cls:=.type "builtin_function_or_method",data:=.fields #[.builtin "list.append",.ref a] }
mutual
inductive VR(W:Wd)(n:Nat):V->j7->Prop
 |none:VR W n .none .none
 |bool(b:Bool):VR W n (.bool b) (.bool b)
 |int(i:Int)(t:Tok):VR W n (.int i) (.int i t)
 |str(s:Str)(t:Tok):s.length<=j0->bS s=true->VR W n (.str s) (.str s t)
 |list{a:Addr}{o:Obj}{items:Array j7}{e:Nat}{xs:List V}:W.fz a=some o->o.cls=.type "list"->o.data=.seq items e->items.size<=j0->VRs W n xs items.toList->o.dict=Option.none->VR W n (.list xs) (.ref a)
 |tup{a:Addr}{o:Obj}{items:Array j7}{e:Nat}{xs:List V}:W.fz a=some o->o.cls=.type "tuple"->o.data=.seq items e->items.size<=j0->VRs W n xs items.toList->VR W n (.tup xs) (.ref a)
 |ref{k:Nat}:k<n->VR W n (.ref k) (.ref (W.ρ k))
 |rng{r:Nat}{a b c:Int}{t u v:Tok}:W.fz r=some { cls:=.type "range",dict:=Option.none,data:=.fields #[.int a t,.int b u,.int c v],slots:=#[] }->Builtin.Range.small a b c=true->VR W n (.rng a b c) (.ref r)
 |mt{a tp:Nat}{o ot:Obj}{vs:Array j7}{items:Array j7}{aW:Nat}{p e:Nat}{t u:Tok}:W.fz a=some o->o.cls=.type "re.Match"->o.data=.fields vs->vs.getD 5 .none=.ref tp->W.fz tp=some ot->ot.data=.seq items aW->items.toList=[.int p t,.int e u]->o.dict=Option.none->VR W n (.mt p e) (.ref a)
 |bnd{b k:Nat}:k<n->W.fz b=some (zM (W.ρ k))->VR W n (.bnd k) (.ref b)
 |top(v:j7):VR W n (.top v) v
inductive VRs(W:Wd)(n:Nat):List V->Lv->Prop
 |nil:VRs W n [] []
 |cons{x:V}{c:j7}{xs:List V}{cs:Lv}:VR W n x c->VRs W n xs cs->VRs W n (x::xs) (c::cs)
end
structure Wle(n:Nat)(W W':Wd):Prop where
 ρ:∀k,k<n->W'.ρ k=W.ρ k
 fz:∀a c,W.fz a=some c->W'.fz a=some c
theorem Wle.refl(n:Nat)(W:Wd):Wle n W W:=⟨λq q=>rfl,λq q e=>e⟩
theorem Wle.trans{n u:Nat}{W W' W'':Wd}(a:Wle n W W')(D:n<=u)(b:Wle u W' W''):Wle n W W'' :=
 ⟨λk hk=>(b.ρ k (g9 hk D)).trans (a.ρ k hk),λx c e=>b.fz x c (a.fz x c e)⟩
def VR.Dat(W:Wd)(n:Nat)(c:j7):V->Prop
 | .none=>c=.none
 | .bool b=>c=.bool b
 | .int i=>∃t,c=.int i t
 | .str x=>∃t,c=.str x t/\x.length<=j0/\bS x=true
 | .list xs=>∃a o items e,c=.ref a/\W.fz a=some o/\o.cls=.type "list"/\o.data=.seq items e/\items.size<=j0/\VRs W n xs items.toList/\o.dict=Option.none
 | .tup xs=>∃a o items e,c=.ref a/\W.fz a=some o/\o.cls=.type "tuple"/\o.data=.seq items e/\items.size<=j0/\VRs W n xs items.toList
 | .ref k=>c=.ref (W.ρ k)/\k<n
 | .rng x y z=>∃r t u v,c=.ref r/\W.fz r=some { cls:=.type "range",dict:=Option.none,data:=.fields #[.int x t,.int y u,.int z v],slots:=#[] }/\Builtin.Range.small x y z=true
 | .mt p e=>∃a F o ot D items I t u,c=.ref a/\W.fz a=some o/\o.cls=.type "re.Match"/\o.data=.fields D/\D.getD 5 .none=.ref F/\W.fz F=some ot/\ot.data=.seq items I/\items.toList=[.int p t,.int e u]/\o.dict=Option.none
 | .bnd k=>∃b,c=.ref b/\k<n/\W.fz b=some (zM (W.ρ k))
 | .top v=>c=v
theorem VR.dat(h:VR W n v c):VR.Dat W n c v:=by
 cases h with
 |none=>exact rfl
 |bool=>exact rfl
 |int=>exact⟨_,rfl⟩
 |str _ _ a b=>exact⟨_,rfl,a,b⟩
 |list a b d z r q=>exact⟨_,_,_,_,rfl,a,b,d,z,r,q⟩
 |tup a b d z r=>exact⟨_,_,_,_,rfl,a,b,d,z,r⟩
 |ref h=>exact⟨rfl,h⟩
 |rng a b=>exact⟨_,_,_,_,rfl,a,b⟩
 |mt a b c d e f g h=>exact⟨_,_,_,_,_,_,_,_,_,rfl,a,b,c,d,e,f,g,h⟩
 |bnd a b=>exact⟨_,rfl,a,b⟩
 |top=>exact rfl
theorem VR.inv_int(h:VR W n (.int i) c):∃t,c=.int i t:=h.dat
theorem VR.inv_str(h:VR W n (.str x) c):∃t,c=.str x t/\x.length<=j0/\bS x:=h.dat
theorem VR.inv_ref(h:VR W n (.ref k) c):c=.ref (W.ρ k)/\k<n:=h.dat
theorem VR.inv_top(h:VR W n (.top v) c):c=v:=h.dat
def VRs.Dat(W:Wd)(n:Nat)(cs:Lv):List V->Prop
 | []=>cs=[]
 |x::xs=>∃c u,cs=c::u/\VR W n x c/\VRs W n xs u
theorem VRs.dat(h:VRs W n u cs):VRs.Dat W n cs u:=by
 cases h with
 |nil=>exact rfl
 |cons a b=>exact⟨_,_,rfl,a,b⟩
theorem VRs.inv_nil(h:VRs W n [] cs):cs=[]:=h.dat
theorem VRs.inv_cons(h:VRs W n (x::xs) cs):∃c u,cs=c::u/\VR W n x c/\VRs W n xs u:=h.dat
theorem VRs.inv1(h:VRs W n [x] cs):∃c,cs=[c]/\VR W n x c:=by refine bi h.inv_cons λc D u a b=>?_;subst u;obtain rfl:=b.inv_nil;exact⟨c,rfl,a⟩
theorem VRs.inv2(h:VRs W n [x,y] cs):∃c d,cs=[c,d]/\VR W n x c/\VR W n y d:=by refine bi h.inv_cons λc F u a b=>?_;subst u;refine ae b.inv1 λd u D=>?_;subst u;exact⟨c,d,rfl,a,D⟩
theorem VR.mono(l:Wle n W W')(D:n<=u)(h:VR W n v c):VR W' u v c :=
 VR.rec (motive_1:=λv c q=>VR W' u v c) (motive_2:=λv c q=>VRs W' u v c) .none .bool .int .str
  (λa b c s q e d=>.list (l.fz _ _ a) b c s d e) (λa b c s q d=>.tup (l.fz _ _ a) b c s d) (λ{k} h=>by rw[<- l.ρ k h];exact .ref (g9 h D))
  (λa b=>.rng (l.fz _ _ a) b) (λa b c d e f g h=>.mt (l.fz _ _ a) b c d (l.fz _ _ e) f g h) (λ{_ k} h e=>.bnd (g9 h D) (by rw[l.ρ k h];exact l.fz _ _ e)) .top .nil (λq q a b=>.cons a b) h
theorem VRs.ind{C:List V->Lv->Prop}(h1:C [] [])(h2:∀{x c xs cs},VR W n x c->VRs W n xs cs->C xs cs->C (x::xs) (c::cs))(h:VRs W n xs cs):C xs cs :=
 VRs.rec (motive_1:=λq q q=>True) (motive_2:=λxs cs q=>C xs cs) trivial (λq=>trivial) (λq q=>trivial) (λq q q q=>trivial) (λq q q q q q q=>trivial) (λq q q q q q=>trivial) (λq=>trivial) (λq q=>trivial) (λq q q q q q q q=>trivial) (λq q=>trivial) (λq=>trivial) h1 (λa b q u=>h2 a b u) h
theorem VRs.mono{W W':Wd}{n u:Nat}(l:Wle n W W')(F:n<=u){v:List V}{c:Lv}(h:VRs W n v c):VRs W' u v c :=
 h.ind .nil λa q D=>.cons (a.mono l F) D
theorem VRs.length{W:Wd}{n:Nat}{xs:List V}{cs:Lv}(h:VRs W n xs cs):cs.length=xs.length :=
 h.ind (C:=λxs cs=>cs.length=xs.length) rfl λq q u=>g0 pL u
theorem VRs.get(h:VRs W n xs cs):∀{i:Nat}{x:V},xs[i]?=some x->∃c,cs[i]?=some c/\VR W n x c:=by
 refine h.ind (C:=λxs cs=>∀{i:Nat}{x:V},xs[i]?=some x->∃c,cs[i]?=some c/\VR W n x c) (λe=>nomatch e) ?_;intro _ _ _ _ a _ u i x e;cases i with
 |zero=>subst e;exact⟨_,rfl,a⟩
 |succ i=>exact u (i:=i) e
theorem VRs.append(h:VRs W n xs cs)(b:VRs W n ys u):VRs W n (xs++ys) (cs++u):=
 h.ind (C:=λxs cs=>VRs W n (xs++ys) (cs++u)) b λa q D=>.cons a D
theorem VRs.drop{W:Wd}{n:Nat}{xs:List V}{cs:Lv}(i:Nat)(h:VRs W n xs cs):VRs W n (xs.drop i) (cs.drop i):=by
 refine h.ind (C:=λxs cs=>∀i,VRs W n (xs.drop i) (cs.drop i)) (λi=>by rw[pX,pX];exact .nil) ?_ i;intro _ _ _ _ a r u i;cases i with
 |zero=>exact .cons a r
 |succ i=>exact u i
theorem VRs.take{W:Wd}{n:Nat}{xs:List V}{cs:Lv}(i:Nat)(h:VRs W n xs cs):VRs W n (xs.take i) (cs.take i):=by
 refine h.ind (C:=λxs cs=>∀i,VRs W n (xs.take i) (cs.take i)) (λi=>by rw[mC,mC];exact .nil) ?_ i;intro _ _ _ _ a r u i;cases i with
 |zero=>exact .nil
 |succ i=>exact .cons a (u i)
theorem VRs.reverse{W:Wd}{n:Nat}{xs:List V}{cs:Lv}(h:VRs W n xs cs):VRs W n xs.reverse cs.reverse :=
 h.ind (C:=λxs cs=>VRs W n xs.reverse cs.reverse) .nil λa q u=>by simp only[List.reverse_cons,List.reverse_cons];exact u.append (.cons a .nil)
class inductive FR  (W:Wd)(n:Nat):List (Str×V)->List eV->Prop
 |nil:FR W n [] []
 |cons{x:Str}{v:V}{c:j7}{hsh:Int}{t:Tok}{fs:List (Str×V)}{es:List eV}:VR W n v c->FR W n fs es->FR W n ((x,v)::fs) (⟨hsh,.str x t,c⟩::es)
theorem FR.mono{W W':Wd}{n u:Nat}(l:Wle n W W')(D:n<=u):∀{v:List (Str×V)}{c:List eV},FR W n v c->FR W' u v c
 |_,_,.nil=>.nil
 |_,_,.cons a b=>.cons (a.mono l D) (b.mono l D)
inductive OR(W:Wd)(n:Nat):O->Obj->Prop
 |list{items:Array j7}{e:Nat}{xs:List V}:VRs W n xs items.toList->items.size<=j0->OR W n (.list xs) (listOf items e)
 |inst{C:Addr}{d:Nat}:d<n->OR W n (.inst C d) (instObj C (W.ρ d))
 |dict{fs:List (Str×V)}{es:List eV}{e:Nat}:FR W n fs es->OR W n (.dict fs) (dictOf es e)
 |cell{o:Obj}{v:V}{c:j7}:o.data=.cell (some c)->VR W n v c->OR W n (.cell (some v)) o
 |nocell{o:Obj}:o.data=.cell .none->OR W n (.cell .none) o
theorem OR.mono{W W':Wd}{n D:Nat}(l:Wle n W W')(u:n<=D){o:O}{c:Obj}(h:OR W n o c):OR W' D o c:=by
 cases h with
 |list d z=>exact .list (d.mono l u) z
 |inst h=>rw[<- l.ρ _ h];exact .inst (g9 h u)
 |dict h=>exact .dict (h.mono l u)
 |cell h r=>exact .cell h (r.mono l u)
 |nocell h=>exact .nocell h
theorem OR.inv_list(h:OR W n (.list xs) c):∃items e,c=listOf items e/\VRs W n xs items.toList/\items.size<=j0:=by cases h;exact⟨_,_,rfl,‹_›,‹_›⟩
theorem OR.unfreed(h:OR W n o c):c.isFreed=false:=by
 cases h with
 |list d z=>rfl
 |inst h=>rfl
 |dict h=>rfl
 |cell h r=>obtain⟨c,d,u,D⟩:=c;simp only at h;subst h;rfl
 |nocell h=>obtain⟨c,d,u,D⟩:=c;simp only at h;subst h;rfl
structure Hp where
 o:Nat->Option O
 n:Nat
structure St extends h:Hp where
 l:List (Str×V)
 e:List (Str×Nat):=[]
structure Par where
 prog:iY
 w:World
 B:nZ
 os:OsState
noncomputable abbrev Par.M(P:Par):Model:=model P.prog P.w
structure Inv(P:Par)(fr:Ln)(W:Wd)(σ:Hp)(s:g6):Prop where
 keep:∀b o,P.B.get? b=some o->s.heap.get? b=some o
 old:∀k,k<σ.n->P.B.get? (W.ρ k)=none
 live:∀k,k<σ.n->∃o,s.heap.get? (W.ρ k)=some o
 nofr:∀k,k<σ.n->W.ρ k∉fr
 nofz:∀k,k<σ.n->W.fz (W.ρ k)=none
 inj:∀i j,i<σ.n->j<σ.n->W.ρ i=W.ρ j->i=j
 o:∀k o,σ.o k=some o->k<σ.n/\∃c,s.heap.get? (W.ρ k)=some c/\OR W σ.n o c
 frz:∀(a:Nat) c,W.fz a=some c->s.heap.get? a=some c/\a∉fr
 frB:∀a∈fr,P.B.get? a=none/\∃o,s.heap.get? a=some o/\∀vs,o.data≠.fields vs
 gens:s.gens= #[]
 os:s.os=P.os
structure Loc(P:Par)(env:Env)(W:Wd)(σ:St)(h:nZ):Prop where
 kind:env.scope.kind=.function
 g:env.globals=eJ
 bns:env.builtins=fV
 l:∃m,h.Ns env.locals m/\∀x v,σ.l.lookup x=some v->env.kindOf x=some .local/\∃c,m x=some c/\VR W σ.n v c
 e:∀x k,σ.e.lookup x=some k->k<σ.n/\((env.kindOf x=some .cell\/env.kindOf x=some .free)->env.cells.lookup x=some (W.ρ k))
structure Nx(fr:Ln)(L:Nat)(W:Wd)(n:Nat)(h:nZ)(W':Wd)(n':Nat)(h':nZ):Prop where
 wle:Wle n W W'
 le:n<=n'
 live:∀a o,h.get? a=some o->∃o',h'.get? a=some o'
 new:∀k,n<=k->k<n'->h.get? (W'.ρ k)=none
 fzn:∀a c,W'.fz a=some c->W.fz a=some c\/h.get? a=none
 ext:∀(a:Nat) o,h.get? a=some o->a≠L->a∉fr->(∀k,k<n->W.ρ k≠a)->h'.get? a=some o
 fext:∀(a:Nat) o,a∈fr->a≠L->h.get? a=some o->∃o',h'.get? a=some o'/\o'.data=o.data
theorem Nx.refl(fr:Ln)(L:Nat)(W:Wd)(n:Nat)(h:nZ):Nx fr L W n h W n h :=
 ⟨.refl n W,i5 _,λq o e=>⟨o,e⟩,λq a b=>d9 b (Nat.not_lt.mpr a),λq q e=>.inl e,λq q e q q q=>e,λq o q q e=>⟨o,e,rfl⟩⟩
theorem Nx.trans{fr:Ln}{L:Nat}{W W' W'':Wd}{n N I:Nat}{h V F:nZ}(a:Nx fr L W n h W' N V)(b:Nx fr L W' N V W'' I F):Nx fr L W n h W'' I F where
 wle:=a.wle.trans a.le b.wle
 le:=b7 a.le b.le
 live:=λx o e=>bf (a.live x o e) λD u=> b.live x D u
 new:=λk h1 h2=>by
  by_cases hk:k<N
  .rw[b.wle.ρ k hk];exact a.new k h1 hk
  .cases q:h.get? (W''.ρ k)with
   |none=>rfl
   |some o=>obtain⟨D,u⟩:=a.live _ _ q;replace u:=(b.new k (Nat.not_lt.mp hk) h2).symm.trans u;cases u
 fzn:=λx c e=>by
  rcases b.fzn x c e with q|q
  .exact a.fzn x c q
  .right
   cases Y:h.get? x with
   |none=>rfl
   |some o=>obtain⟨D,u⟩:=a.live _ _ Y;replace u:=q.symm.trans u;cases u
 ext:=λx o e h1 T h2=>b.ext x o (a.ext x o e h1 T h2) h1 T λk hk q=>by
  by_cases J:k<n
  .obtain q:=(a.wle.ρ k J).symm.trans q;exact h2 k J q
  .have:=a.new k (Nat.not_lt.mp J) hk
   replace this:=e▸q▸this;cases this
 fext:=λx o h1 h2 e=>by
  obtain⟨D,u,X⟩:=a.fext x o h1 h2 e
  obtain⟨U,S,O⟩:=b.fext x D h1 h2 u
  exact⟨U,S,O.trans X⟩
theorem Nx.keeps(F:Wle n W W')(le:n<=u)(hk:∀b o,h.get? b=some o->D.get? b=some o)(new:∀k,n<=k->k<u->h.get? (W'.ρ k)=none)(fzn:∀a c,W'.fz a=some c->W.fz a=some c\/h.get? a=none):Nx fr L W n h W' u D :=
 ⟨F,le,λq o e=>⟨o,hk _ _ e⟩,new,fzn,λq q e q q q=>hk _ _ e,λq o q q e=>⟨o,hk _ _ e,rfl⟩⟩
structure Step(P:Par)(fr:Ln)(env:Env)(W:Wd)(σ:St)(s:g6)(W':Wd)(σ':St)(s':g6):Prop where
 nx:Nx fr env.locals W σ.n s.heap W' σ'.n s'.heap
 inv:Inv P fr W' σ'.h s'
 l:Loc P env W' σ' s'.heap
theorem Step.trans{P:Par}{fr:Ln}{env:Env}{W W' W'':Wd}{σ σ' u:St}{s s' s'':g6}(a:Step P fr env W σ s W' σ' s')(b:Step P fr env W' σ' s' W'' u s''):Step P fr env W σ s W'' u s'' :=
 ⟨a.nx.trans b.nx,b.inv,b.l⟩
section
variable{P:Par}{fr:Ln}{env:Env}{W:Wd}{σ:St}{s:g6}
theorem Inv.toks(I:Inv P fr W σ.h s)(t:Nat):Inv P fr W σ.h { s with toks:=t }:=
 ⟨I.keep,I.old,I.live,I.nofr,I.nofz,I.inj,I.o,I.frz,I.frB,I.gens,I.os⟩
theorem Step.toks(I:Inv P fr W σ.h s)(L:Loc P env W σ s.heap)(t:Nat):Step P fr env W σ s W σ { s with toks:=t }:=
 ⟨.refl ..,I.toks t,L⟩
theorem Step.refl(I:Inv P fr W σ.h s)(L:Loc P env W σ s.heap):Step P fr env W σ s W σ s:=⟨.refl ..,I,L⟩
theorem Inv.grow(I:Inv P fr W σ.h s)(hk:∀b o,s.heap.get? b=some o->s'.heap.get? b=some o)(hg:s'.gens=s.gens)(u:s'.os=s.os):Inv P fr W σ.h s' where
 keep:=λb o e=>hk _ _ (I.keep b o e)
 old:=I.old
 live:=λk h=>bf (I.live k h) λo e=> ⟨o,hk _ _ e⟩
 nofr:=I.nofr
 nofz:=I.nofz
 inj:=I.inj
 o:=λk o e=>let⟨a,c,b,d⟩:=I.o k o e;⟨a,c,hk _ _ b,d⟩
 frz:=λa c e=>⟨hk _ _ (I.frz a c e).1,(I.frz a c e).2⟩
 frB:=λa h=>⟨(I.frB a h).1,ae ((I.frB a h).2) λo e d=> ⟨o,hk _ _ e,d⟩⟩
 gens:=hg.trans I.gens
 os:=u.trans I.os
theorem Loc.grow(L:Loc P env W σ s.heap)(hk:∀b o,s.heap.get? b=some o->u.get? b=some o):Loc P env W σ u :=
 ⟨L.kind,L.g,L.bns,ae L.l λm a b=> ⟨m,a.keeps hk,b⟩,L.e⟩
theorem Step.grow(I:Inv P fr W σ.h s)(L:Loc P env W σ s.heap){s':g6}(hk:∀b o,s.heap.get? b=some o->s'.heap.get? b=some o)(hg:s'.gens=s.gens)(u:s'.os=s.os):Step P fr env W σ s W σ s' :=
 ⟨.keeps (.refl ..) (i5 _) hk (λq a b=>d9 b (Nat.not_lt.mpr a)) (λq q e=>.inl e),I.grow hk hg u,L.grow hk⟩
theorem Step.push(I:Inv P fr W σ.h s)(L:Loc P env W σ s.heap)(o:Obj)(e:s'.heap=s.heap.push o)(hg:s'.gens=s.gens)(u:s'.os=s.os):Step P fr env W σ s W σ s' :=
 Step.grow I L (λq q x=>e▸bW _ x) hg u
noncomputable def Wd.freeze(W:Wd)(a:Nat)(o:Obj):Wd:={ W with fz:=λb=>if b=a then some o else W.fz b }
theorem Step.freezeAt(I:Inv P fr W σ.h s)(L:Loc P env W σ s.heap)(o:Obj)(a:Nat)(N:s.heap.get? a=none)(hk:∀b D,s.heap.get? b=some D->s'.heap.get? b=some D)(U:s'.heap.get? a=some o)(hg:s'.gens=s.gens)(T:s'.os=s.os):Step P fr env W σ s (W.freeze a o) σ s':=by
 have S:∀b c,W.fz b=some c->(W.freeze a o).fz b=some c:=λb c h=>by show(if b=a then some o else W.fz b)=some c;rw[b6];exact h;rintro rfl;have:=(I.frz _ _ h).1;rw[N]at this;exact nomatch this
 have O:Wle σ.n W (W.freeze a o):=⟨λz z=>rfl,S⟩
 have J:=I.grow hk hg T;refine⟨.keeps O (i5 _) hk (λz a b=>d9 b (Nat.not_lt.mpr a)) (λb c e=>?_),⟨J.keep,J.old,J.live,J.nofr,λk h=>?_,J.inj,λk D h=>?_,λb c h=>?_,J.frB,J.gens,J.os⟩,?_⟩
 .by_cases F:b=a
  .subst F;exact .inr N
  .obtain u:=ao F e;exact .inl u
 .show(if W.ρ k=a then some o else W.fz (W.ρ k))=none;rw[b6];exact I.nofz k h;rintro rfl;obtain⟨D,u⟩:=I.live k h;rw[N]at u;exact nomatch u
 .obtain⟨a,c,b,d⟩:=J.o k D h;exact⟨a,c,b,d.mono O (i5 _)⟩
 .by_cases F:b=a
  .subst F;obtain h':=aw rfl h;subst h';refine⟨U,λhm=>?_⟩;obtain⟨D,u,_⟩:=(I.frB _ hm).2;rw[N]at u;exact nomatch u
  .obtain h':=ao F h;exact J.frz b c h'
 .obtain J':=L.grow hk;exact⟨J'.kind,J'.g,J'.bns,let⟨m,a,b⟩:=J'.l;⟨m,a,λx v h=>let⟨p,c,q,r⟩:=b x v h;⟨p,c,q,r.mono O (i5 _)⟩⟩,J'.e⟩
theorem vP(h:nZ):h.get? h.objs.size=none:=fM (i5 _)
theorem Step.freeze(I:Inv P fr W σ.h s)(L:Loc P env W σ s.heap)(o:Obj)(u:o.isFreed=false)(e:s'.heap=s.heap.push o)(hg:s'.gens=s.gens)(D:s'.os=s.os):Step P fr env W σ s (W.freeze s.heap.objs.size o) σ s' :=
 Step.freezeAt I L o _ (vP _) (λq q x=>e▸bW _ x) (e▸eH _ u) hg D
noncomputable def Wd.add(W:Wd)(n:Nat)(a:Nat):Wd:={ W with ρ:=λk=>if k=n then a else W.ρ k }
noncomputable def St.add(σ:St)(o:O):St:={ σ with o:=λk=>if k=σ.n then some o else σ.o k,n:=σ.n+1 }
theorem Wd.add_le(W:Wd)(n:Nat)(a:Nat):Wle n W (W.add n a):=
 ⟨λk h=>bc (n3 h) rfl,λq q e=>e⟩
theorem Step.addAt(I:Inv P fr W σ.h s)(L:Loc P env W σ s.heap)(o:O)(c:Obj)(a:Nat)(T:s.heap.get? a=none)(hr:OR (W.add σ.n a) (σ.n+1) o c)(hk:∀b F,s.heap.get? b=some F->s'.heap.get? b=some F)(Z:s'.heap.get? a=some c)(hg:s'.gens=s.gens)(ho:s'.os=s.os):Step P fr env W σ s (W.add σ.n a) (σ.add o) s':=by
 have S:=W.add_le σ.n a;have J:=I.grow hk hg ho;have u:(W.add σ.n a).ρ σ.n=a:=ax rfl rfl;have D:∀k,k<σ.n+1->k=σ.n\/(k<σ.n/\(W.add σ.n a).ρ k=W.ρ k):=λk h=>by
  rcases Nat.lt_succ_iff_lt_or_eq.mp h with h|h
  .exact .inr ⟨h,S.ρ k h⟩
  .exact .inl h
 refine⟨.keeps S (eM _) hk (λk V b=>?_) (λz z e=>.inl e),⟨J.keep,λk h=>?_,λk h=>?_,λk h=>?_,λk h=>?_,λi j hi hj h=>?_,λk F h=>?_,λa c h=>J.frz a c h,J.frB,J.gens,J.os⟩,?_⟩
 .rcases D k b with rfl|⟨q,_⟩
  .rw[u];exact T
  .exact d9 q (Nat.not_lt.mpr V)
 .rcases D k h with rfl|⟨q,r⟩
  .rw[u];cases Y:P.B.get? a with
   |none=>rfl
   |some o=>have:=I.keep _ _ Y;rw[T]at this;exact nomatch this
  .rw[r];exact I.old k q
 .rcases D k h with rfl|⟨q,r⟩
  .rw[u];exact⟨_,Z⟩
  .rw[r];exact J.live k q
 .rcases D k h with rfl|⟨q,r⟩
  .rw[u];intro hm;obtain⟨F,N,_⟩:=(I.frB _ hm).2;rw[T]at N;exact nomatch N
  .rw[r];exact I.nofr k q
 .rcases D k h with rfl|⟨q,r⟩
  .rw[u];show W.fz _=none;cases Y:W.fz a with
   |none=>rfl
   |some o=>have:=(I.frz _ _ Y).1;rw[T]at this;exact nomatch this
  .rw[r];exact I.nofz k q
 .rcases D i hi with rfl|⟨q,r⟩ <;> rcases D j hj with rfl|⟨q',r'⟩
  .rfl
  .rw[u,r']at h;obtain⟨F,N⟩:=I.live j q';rw[<- h,T]at N;exact nomatch N
  .rw[u,r]at h;obtain⟨F,N⟩:=I.live i q;rw[h,T]at N;exact nomatch N
  .rw[r,r']at h;exact I.inj i j q q' h
 .have U:(if k=σ.n then some o else σ.o k)=some F:=h;by_cases X:k=σ.n
  .subst X;replace U:=aw rfl U;subst U;exact⟨s9 _,c,by rw[u];exact Z,hr⟩
  .obtain U:=ao X U;obtain⟨V,c',b,d⟩:=J.o k F U;exact⟨dU V,c',by rw[S.ρ k V];exact b,d.mono S (eM _)⟩
 .have J':=L.grow hk;exact⟨J'.kind,J'.g,J'.bns,let⟨m,a,b⟩:=J'.l;⟨m,a,λx v h=>let⟨p,c,q,r⟩:=b x v h;⟨p,c,q,r.mono S (eM _)⟩⟩,
   λx k h=>bo (J'.e x k h) λp q=> ⟨dU p,λhk=>by rw[S.ρ k p];exact q hk⟩⟩
theorem Step.add(I:Inv P fr W σ.h s)(L:Loc P env W σ s.heap)(o:O)(c:Obj)(u:OR (W.add σ.n s.heap.objs.size) (σ.n+1) o c)(e:s'.heap=s.heap.push c)(hg:s'.gens=s.gens)(D:s'.os=s.os):Step P fr env W σ s (W.add σ.n s.heap.objs.size) (σ.add o) s' :=
 Step.addAt I L o c _ (vP _) u (λq q x=>e▸bW _ x) (e▸eH _ u.unfreed) hg D
noncomputable def St.put(σ:St)(k:Nat)(o:O):St:={ σ with o:=λj=>if j=k then some o else σ.o j }
theorem Step.put(I:Inv P fr W σ.h s)(L:Loc P env W σ s.heap)(hk:k<σ.n)(hL:env.locals∈fr)(o:O)(N:OR W σ.n o c)(hs:∀b o,b≠W.ρ k->s.heap.get? b=some o->s'.heap.get? b=some o)(hc:s'.heap.get? (W.ρ k)=some c)(hg:s'.gens=s.gens)(S:s'.os=s.os):Step P fr env W σ s W (σ.put k o) s':=by
 have lv:∀a o,s.heap.get? a=some o->∃u,s'.heap.get? a=some u:=λa o e=>by
  by_cases J:a=W.ρ k
  .subst J;exact⟨_,hc⟩
  .exact⟨o,hs a o J e⟩
 refine⟨⟨.refl ..,i5 _,lv,λz a b=>d9 b (Nat.not_lt.mpr a),λz z e=>.inl e,λa u e z z h=>hs a u (fR (h k hk)) e,λa u h1 z e=>⟨u,hs a u (λq=>I.nofr k hk (q▸h1)) e,rfl⟩⟩,⟨λb u e=>?_,I.old,λj h=>bf (I.live j h) λo e=> lv _ _ e,I.nofr,I.nofz,I.inj,λj u h=>?_,λa c' h=>?_,λa h=>⟨(I.frB a h).1,ae ((I.frB a h).2) λo e d=> ⟨o,hs a o (λq=>I.nofr k hk (q▸h)) e,d⟩⟩,hg.trans I.gens,S.trans I.os⟩,?_⟩
 .refine hs b u ?_ (I.keep b u e);rintro rfl;replace e:=(I.old k hk).symm.trans e;exact nomatch e
 .have D:(if j=k then some o else σ.o j)=some u:=h;by_cases F:j=k
  .subst F;replace D:=aw rfl D;subst D;exact⟨hk,c,hc,N⟩
  .obtain D:=ao F D;obtain⟨a,c',b,d⟩:=I.o j u D;exact⟨a,c',hs _ _ (λq=>F (I.inj j k a hk q)) b,d⟩
 .refine⟨hs a c' ?_ (I.frz a c' h).1,(I.frz a c' h).2⟩;rintro rfl;replace h:=(I.nofz k hk).symm.trans h;exact nomatch h
 .exact ae L.l λm a b=>⟨L.kind,L.g,L.bns,⟨m,a.extBut (λb o T e=>hs b o T e) λq=>I.nofr k hk (q▸hL),b⟩,L.e⟩
noncomputable def yG(x:Str)(v:V)(l:List (Str×V)):List (Str×V):=(x,v)::l
theorem lookup_setL:(yG x v l).lookup y=if y=x then some v else l.lookup y:=by
 unfold yG;by_cases h:y=x
 .subst h;simp[k8]
 .have:(y==x)=false:=k9 h;simp[k8,this,h]
def St.set(σ:St)(x:Str)(v:V):St:={ σ with l:=yG x v σ.l }
theorem Step.set(I:Inv P fr W σ.h s)(L:Loc P env W σ s.heap)(hL:env.locals∈fr)(hv:VR W σ.n v c)(hx:env.kindOf x=some .local)(hm:s.heap.Ns env.locals m)(S:s'.heap.Ns env.locals (λy=>if y=x then some c else m y))(hs:lP env.locals s.heap s'.heap)(hg:s'.gens=s.gens)(Z:s'.os=s.os):Step P fr env W σ s W (σ.set x v) s':=by
 have lv:∀a o,s.heap.get? a=some o->∃D,s'.heap.get? a=some D:=λa o e=>by
  by_cases J:a=env.locals
  .subst J;exact dp S λD z z U z=>⟨D,U⟩
  .exact⟨o,(hs.2 a J).trans e⟩
 refine⟨⟨.refl ..,i5 _,lv,λz a b=>d9 b (Nat.not_lt.mpr a),λz z e=>.inl e,λa D e h z z=>(hs.2 a h).trans e,λa D z h e=>⟨D,(hs.2 a h).trans e,rfl⟩⟩,⟨λb D e=>?_,I.old,λj h=>let⟨o,e⟩:=I.live j h;lv _ _ e,I.nofr,I.nofz,I.inj,λj D h=>?_,λa c' h=>?_,λa h=>⟨(I.frB a h).1,by
  by_cases J:a=env.locals
  .subst J;exact cm S λD a3 a2 U Y z=>⟨D,U,λvs q=>by replace q:=Y.symm.trans q;cases q⟩
  .exact ae ((I.frB a h).2) λo e d=>⟨o,(hs.2 a J).trans e,d⟩⟩,hg.trans I.gens,Z.trans I.os⟩,?_⟩
 .refine(hs.2 b ?_).trans (I.keep b D e);rintro rfl;replace e:=((I.frB _ hL).1).symm.trans e;cases e
 .obtain⟨a,c',b,d⟩:=I.o j D h;exact⟨a,c',(hs.2 (W.ρ j) λq=>I.nofr j a (by rw[q];exact hL)).trans b,d⟩
 .refine⟨(hs.2 a ?_).trans (I.frz a c' h).1,(I.frz a c' h).2⟩;rintro rfl;exact(I.frz _ _ h).2 hL
 .refine ae L.l λm' a b=>⟨L.kind,L.g,L.bns,⟨_,S,λy u h=>?_⟩,L.e⟩;obtain F:=lookup_setL.symm.trans h;by_cases T:y=x
  .subst T;replace F:=aw rfl F;subst F;exact⟨hx,c,by simp,hv⟩
  .obtain F:=ao T F;obtain⟨p,c',q,r⟩:=b y u F;refine⟨p,c',(b6 T).trans ?_,r⟩;rw[<- (by
    refine bw a λo1 a4 e1 X d1 k1 f1=>bw hm λo2 a5 e2 N O k2 f2=>?_
    replace N:=X.symm.trans N;injection N with N;subst N;replace O:=d1.symm.trans O;injection O with O;subst O
    rw[<- f1,<- f2]:m' y=m y)];exact q
end
set_option genCtorIdx true in
inductive Rs(α:Type)where
 |ok(a:α)(σ:St)
 |bad
noncomputable def Rs.bind(r:Rs α)(f:α->St->Rs β):Rs β:=match r with
 | .ok a σ=>f a σ
 | .bad=>.bad
def NoE(e:j7)(s':g6):Prop:=False
theorem NoE.elim{C:Prop}{e:j7}{s':g6}(h:NoE e s'):C:=False.elim h
theorem NoE.after{p:Prop}(a:p)(h:NoE e s'):NoE u s'':=False.elim h
structure Fm(P:Par)(lv:Nat)(fr:Ln)(A:w4)(env:Env):Prop where
 hL:env.locals∈fr
 handled:A.handled=none
 units:A.units+20*lv+200<cLine
 depth:A.depth+10*lv+100<recursionLimit
 frames:∃l,A.frames=some l/\∀e∈l,e.scope.kind≠.module/\∃L,e.frame=some L/\L∈fr
section
variable(P:Par)(fr:Ln)(env:Env)(W:Wd)(σ:St)(s:g6)
inductive Post(r:Rs V)(c:j7)(s':g6):Prop where
 |mk(v:V)(σ':St)(W':Wd)(h1:r=.ok v σ')(h2:Step P fr env W σ s W' σ' s')(h3:VR W' σ'.n v c)
inductive PostB(r:Rs Bool)(b:Bool)(s':g6):Prop where
 |mk(σ':St)(W':Wd)(h1:r=.ok b σ')(h2:Step P fr env W σ s W' σ' s')
inductive PostL(r:Rs (List V))(c:Lv)(s':g6):Prop where
 |mk(v:List V)(σ':St)(W':Wd)(h1:r=.ok v σ')(h2:Step P fr env W σ s W' σ' s')(h3:VRs W' σ'.n v c)
end
theorem Post.after(a:Step P fr env W σ s W' σ' s')(b:Post P fr env W' σ' s' r c s''):Post P fr env W σ s r c s'' :=
 let⟨v,σ'',W'',e,st,h⟩:=b;⟨v,σ'',W'',e,a.trans st,h⟩
theorem PostB.after(a:Step P fr env W σ s W' σ' s')(b:PostB P fr env W' σ' s' r c s''):PostB P fr env W σ s r c s'' :=
 let⟨σ'',W'',e,st⟩:=b;⟨σ'',W'',e,a.trans st⟩
theorem PostL.after(a:Step P fr env W σ s W' σ' s')(b:PostL P fr env W' σ' s' r c s''):PostL P fr env W σ s r c s'' :=
 let⟨v,σ'',W'',e,st,h⟩:=b;⟨v,σ'',W'',e,a.trans st,h⟩
theorem Rs.bind_ok{r:Rs α}{f:α->St->Rs β}{a:α}(h:r=.ok a σ):r.bind f=f a σ:=by rw[h];rfl
theorem Rs.bind_ne{r:Rs α}{f:α->St->Rs β}(h:r.bind f≠.bad):r≠.bad:=by rintro rfl;exact h rfl
def OkE(P:Par)(fr:Ln)(A:w4)(env:Env)(t:Sem j7)(f:St->Rs V):Prop :=
 ∀W σ s,Inv P fr W σ.h s->Loc P env W σ s.heap->f σ≠.bad->wpAny P.M A t (Post P fr env W σ s (f σ)) NoE s
def OkB(P:Par)(fr:Ln)(A:w4)(env:Env)(t:Sem Bool)(f:St->Rs Bool):Prop :=
 ∀W σ s,Inv P fr W σ.h s->Loc P env W σ s.heap->f σ≠.bad->wpAny P.M A t (PostB P fr env W σ s (f σ)) NoE s
def OkL(P:Par)(fr:Ln)(A:w4)(env:Env)(t:Sem (Lv))(f:St->Rs (List V)):Prop :=
 ∀W σ s,Inv P fr W σ.h s->Loc P env W σ s.heap->f σ≠.bad->wpAny P.M A t (PostL P fr env W σ s (f σ)) NoE s
theorem qXf{g:j7->Sem α}{k:V->St->Rs α'}{Q:α->g6->Prop}{E:Pv}(D:OkE P fr A env t f)(I:Inv P fr W σ.h s)(L:Loc P env W σ s.heap)(F:(f σ).bind k≠.bad)(u:∀e s',NoE e s'->E e s')(hg:∀v c W' σ' s',f σ=.ok v σ'->Step P fr env W σ s W' σ' s'->VR W' σ'.n v c->wpAny P.M A (g c) Q E s'):wpAny P.M A t (λc s'=>wpAny P.M A (g c) Q E s') E s :=
 j9 (D W σ s I L (Rs.bind_ne F)) (λc s' ⟨v,σ',W',e,st,hv⟩=>hg v c W' σ' s' e st hv) (λe s' h=>u e s' h.elim)
set_option genCtorIdx true in
inductive Ov where
 |ok(v:V)
 |bad
noncomputable def Ov.st(r:Ov)(σ:St):Rs V:=match r with
 | .ok v=>.ok v σ
 | .bad=>.bad
noncomputable def asO:Option O->Option (List V)
 |some (.list xs)=>some xs
 |_=>Option.none
theorem qHz(h:asO o=some xs):o=some (.list xs):=by
 cases o with
 |none=>cases h
 |some o=>cases o with
  |list ys=>subst h;rfl
  |_=>cases h
def asList(H:Hp):V->Option (List V)
 | .list xs=>some xs
 | .ref k=>asO (H.o k)
 |_=>Option.none
def truV(H:Hp):V->Option Bool
 | .none=>some false
 | .bool b=>some b
 | .int i=>some (i != 0)
 | .mt _ _=>some true
 |v=>(asList H v).map λxs=>!xs.isEmpty
noncomputable def qV:V->Option Str
 | .str x=>some x
 |_=>Option.none
noncomputable def qZ:V->Option Int
 | .int x=>some x
 |_=>Option.none
theorem qH:qV v=some x->v=.str x:=by cases v <;> intro h <;> first|exact g0 _ (b5 h)|exact zN1 h
theorem qI:qZ v=some x->v=.int x:=by cases v <;> intro h <;> first|exact g0 _ (b5 h)|exact zN1 h
theorem qU{α β:Type}{o:Option α}{f:α->β}{b:β}(h:o.elim b f≠b):∃a,o=some a:=by
 cases o with
 |none=>exact d9 rfl h
 |some a=>exact⟨a,rfl⟩
def qUt(f:Int->Int->Ov)(a b:V):Ov:=(qZ a).elim .bad λx=>(qZ b).elim .bad λy=>f x y
noncomputable def qFh:V->Option (List V)
 | .list x=>some x
 |_=>Option.none
theorem qCy:qFh v=some x->v=.list x:=by cases v <;> intro h <;> first|exact g0 _ (b5 h)|exact zN1 h
noncomputable def zHb:V->Option (Nat×Nat)
 | .mt p e=>some (p,e)
 |_=>Option.none
theorem qFf:zHb v=some x->v=.mt x.1 x.2:=by cases v <;> intro h <;> first|exact zN1 h|exact b5 h▸rfl
def qCt(H:Hp):V->Option (Nat×List V)
 | .ref k=>(asO (H.o k)).map λxs=>(k,xs)
 |_=>Option.none
theorem vR:qCt H v=some (k,xs)->v=.ref k/\H.o k=some (.list xs):=by
 cases v <;> intro h <;> first|exact zN1 h|skip
 refine qa (h) λys h1 h2=>?_;injection h2 with h2 h_;subst h2 h_
 exact⟨rfl,qHz h1⟩
def addV(_:Hp)(a b:V):Ov :=
 (qZ a).elim ((qV a).elim ((qFh a).elim .bad λxs=>(qFh b).elim .bad λys=>if xs.length+ys.length<=j0 then .ok (.list (xs++ys))else .bad)
  λx=>(qV b).elim .bad λy=>if x.length+y.length<=j0 then .ok (.str (x++y))else .bad) λx=>(qZ b).elim .bad λy=>.ok (.int (x+y))
def qUi(x:Str)(b:V):Ov:=(qZ b).elim .bad λi=>if i=3/\x.length=1 then .ok (.str (x++x++x))else .bad
def zMx(a b:V):Ov:=(qV a).elim .bad λx=>qUi x b
def qOx(H:Hp)(op:Operator)(a b:V):Ov:=match op with
 | .Add=>addV H a b
 | .Sub=>qUt (λx y=>.ok (.int (x-y))) a b
 | .Mult=>zMx a b
 | .FloorDiv=>qUt (λx y=>if 0<y/\y<1000 then .ok (.int (x.fdiv y))else .bad) a b
 | .Mod=>qUt (λx y=>if y=0 then .bad else .ok (.int (x.fmod y))) a b
 |_=>.bad
def dat(H:Hp):Nat->V->Option PyData
 |0,_=>Option.none
 |_+1,.none=>some .none
 |_+1,.bool b=>some (.bool b)
 |_+1,.int i=>some (.int i)
 |_+1,.str s=>some (.str s)
 |n+1,.list xs=>(xs.mapM (dat H n)).map .list
 |n+1,.tup xs=>(xs.mapM (dat H n)).map .tuple
 |n+1,.ref k=>(asO (H.o k)).bind λxs=>(xs.mapM (dat H n)).map .list
 |_,_=>Option.none
def eqB(H:Hp)(a b:V):Option Bool:=(dat H 8 a).bind λx=>(dat H 8 b).map λy=>gQ x y
def zGs(f:Int->Int->Bool)(a b:V):Option Bool:=(qZ a).bind λx=>(qZ b).map λy=>f x y
def inL(H:Hp)(a b:V):Option Bool:=(dat H 8 a).bind λx=>(asList H b).bind λys=>(ys.mapM (dat H 7)).map λl=>l.any λy=>gQ y x
def inB(H:Hp)(a b:V):Option Bool:=(qV b).elim (inL H a b) λx=>(qV a).map λy=>m6 x y
noncomputable def qHl:V->Option Bool
 | .none=>some true
 | .int _=>some false
 | .list _=>some false
 | .mt _ _=>some false
 |_=>Option.none
def isB(a b:V):Option Bool:=match b with
 | .none=>qHl a
 |_=>Option.none
def zQk(H:Hp)(op:CmpOp)(a b:V):Option Bool:=match op with
 | .Eq=>eqB H a b
 | .NotEq=>(eqB H a b).map (!·)
 | .Lt=>zGs (λx y=>decide (x<y)) a b
 | .Gt=>zGs (λx y=>decide (x>y)) a b
 | .GtE=>zGs (λx y=>decide (x≥y)) a b
 | .In=>inB H a b
 | .Is=>isB a b
 | .IsNot=>(isB a b).map (!·)
 | .NotIn=>(qV b).bind λx=>(qV a).map λy=>!Txt.contains x y
 |_=>Option.none
noncomputable def zDb:Option Bool->Ov
 |some b=>.ok (.bool b)
 |Option.none=>.bad
def uS(H:Hp)(op:CmpOp)(a b:V):Ov:=zDb (zQk H op a b)
def negV(v:V):Ov:=(qZ v).elim .bad λa=>.ok (.int (-a))
noncomputable def kT(i:Int):Bool:=decide (-(2 ^ 63:Int)<=i)&&decide (i<2 ^ 63)
def zDl(H:Hp):V->Option (List V)
 | .tup xs=>some xs
 |v=>asList H v
def idxV(H:Hp)(a i:V):Ov:=(qZ i).elim .bad λk=>if kT k then(match qV a with
  |some x=>((seqIndex? k x.length).bind (x.cps[·]?)).elim .bad λc=>.ok (.str ⟨#[c]⟩)
  |Option.none=>(zDl H a).elim .bad λxs=>((seqIndex? k xs.length).bind (xs[·]?)).elim .bad .ok)else .bad
noncomputable def qHy:V->Option (Option Int)
 | .none=>some Option.none
 | .int i=>some (some i)
 |_=>Option.none
noncomputable def cut{α:Type}(xs:List α)(u hi:Option Int):List α :=
 (xs.drop (u.elim 0 (clipAt xs.length))).take (hi.elim xs.length (clipAt xs.length)-u.elim 0 (clipAt xs.length))
def yF(H:Hp)(a u hi:V):Ov:=(qHy u).elim .bad λl=>(qHy hi).elim .bad λh=>match qV a with
 |some x=>.ok (.str ⟨(cut x.cps.toList l h).toArray⟩)
 |Option.none=>(asList H a).elim .bad λxs=>.ok (.list (cut xs l h))
def itsV(H:Hp):V->Option (List V)
 | .tup xs=>some xs
 | .rng a b c=>some ((rD (j5 a b c).toNat).map λ(i:Nat)=>.int (a+(i:Int)*c))
 |v=>asList H v
structure Cx where
 lvl:Nat:=0
 gl:Str->Option V
 app:V->List V->Hp->Rs V
 get:V->Str->Hp->Option (V×List V)
 fld:V->Str->Hp->Ov
noncomputable def Rs.lift(r:Rs α)(σ:St):Rs α:=match r with
 | .ok a σ'=>.ok a { σ with h:=σ'.h }
 | .bad=>.bad
def qAw(b:V)(σ:St)(t:St->Rs V):Rs (Option V):=match truV σ.h b with
 |some true=>(t σ).bind λr a0=>.ok (some r) a0
 |some false=>.ok Option.none σ
 |Option.none=>.bad
open Classical in
def turns(v:V)(all:List V)(f:V->St->Rs (Option V)):List V->St->Rs (List V)
 | [],σ=>if itsV σ.h v=some all then .ok [] σ else .bad
 |x::r,σ=>if itsV σ.h v=some all then(match f x σ with
  | .ok o a0=>(turns v all f r a0).bind λu a7=>.ok (o.toList++u) a7
  |_=>.bad)else .bad
open Classical in
theorem qBl:turns v all f [] σ=if itsV σ.h v=some all then .ok [] σ else .bad:=rfl
open Classical in
theorem qBm:turns v all f (x::r) σ=if itsV σ.h v=some all then(match f x σ with
  | .ok o a0=>(turns v all f r a0).bind λu a7=>.ok (o.toList++u) a7
  |_=>.bad)else .bad:=rfl
noncomputable def qCs:V->Option (List V)
 | .tup xs=>some xs
 |_=>Option.none
noncomputable def two:List V->Option (V×V)
 | [a,b]=>some (a,b)
 |_=>Option.none
noncomputable def zDf(x:Str)(v:V):Option (List (Str×V)):=some [(x,v)]
def qGa(x y:Str)(v:V):Option (List (Str×V)):=((qCs v).bind two).map λq=>[(y,q.2),(x,q.1)]
noncomputable def jT(v:V)(σ:St)(k:List V->St->Rs α):Rs α:=match v with
 | .list xs=>k xs σ
 |_=>.bad
noncomputable def fits(n:Nat)(r:Rs V):Rs V:=if n<=j0 then r else .bad
def condR(v:V)(σ:St)(t e:St->Rs V):Rs V:=match truV σ.h v with
 |some true=>t σ
 |some false=>e σ
 |Option.none=>.bad
variable(cx:Cx)in
def ev:X->St->Rs V
 | .none,σ=>.ok .none σ
 | .bool b,σ=>.ok (.bool b) σ
 | .int i,σ=>.ok (.int i) σ
 | .str s,σ=>.ok (.str s) σ
 | .v x,σ=>match σ.l.lookup x with|some v=>.ok v σ|Option.none=>.bad
 | .cv x,σ=>match σ.e.lookup x with
  |some k=>(match σ.o k with|some (.cell (some v))=>.ok v σ|_=>.bad)
  |Option.none=>.bad
 | .g x,σ=>match cx.gl x with|some v=>.ok v σ|Option.none=>.bad
 | .bin op a b,σ=>(ev a σ).bind λu a0=>(ev b a0).bind λI a7=>(qOx a7.h op u I).st a7
 | .neg a,σ=>(ev a σ).bind λu a0=>(negV u).st a0
 | .not a,σ=>(ev a σ).bind λu a0=>match truV a0.h u with|some b=>.ok (.bool !b) a0|Option.none=>.bad
 | .cmp op a b,σ=>(ev a σ).bind λu a0=>(ev b a0).bind λI a7=>(uS a7.h op u I).st a7
 | .and a b,σ=>(ev a σ).bind λu a0=>condR u a0 (ev b) (λa0=>.ok u a0)
 | .or a b,σ=>(ev a σ).bind λu a0=>condR u a0 (λa0=>.ok u a0) (ev b)
 | .ite c a b,σ=>(ev c σ).bind λL a0=>condR L a0 (ev a) (ev b)
 | .idx a i,σ=>(ev a σ).bind λu a0=>(ev i a0).bind λF a7=>(idxV a7.h u F).st a7
 | .slc a lo hi,σ=>(ev a σ).bind λu a0=>(ev lo a0).bind λN a7=>(ev hi a7).bind λJ aD=>(yF aD.h u N J).st aD
 | .attr o f,σ=>(ev o σ).bind λvo a0=>(cx.fld vo f a0.h).st a0
 | .list es,σ=>(ev es σ).bind λD a0=>jT D a0 λxs a0=>fits xs.length (.ok (.list xs) a0)
 | .tup es,σ=>(ev es σ).bind λD a0=>jT D a0 λxs a0=>fits xs.length (.ok (.tup xs) a0)
 | .nil,σ=>.ok (.list []) σ
 | .cons a b,σ=>(ev a σ).bind λu a0=>(ev b a0).bind λD a7=>jT D a7 λxs a7=>.ok (.list (u::xs)) a7
 | .call f as,σ=>(ev f σ).bind λvf a0=>(ev as a0).bind λD a7=>jT D a7 λxs a7=>(cx.app vf xs a7.h).lift a7
 | .m o m as,σ=>(ev o σ).bind λvo a0=>match cx.get vo m a0.h with
  |some (vf,first)=>(ev as a0).bind λD a7=>jT D a7 λxs a7=>(cx.app vf (first++xs) a7.h).lift a7
  |Option.none=>.bad
 | .comp elt x it cond,σ=>(ev it σ).bind λF a0=>match itsV a0.h F with
  |some xs=>(turns F xs (λv a7=>(ev cond { a7 with l:=[(x,v)],e:=a0.e }).bind λb aD=>qAw b aD (ev elt)) xs a0).bind λD a7=>fits D.length (.ok (.list D) { a0 with h:=a7.h })
  |Option.none=>.bad
 | .comp2 elt x y it,σ=>(ev it σ).bind λF a0=>match itsV a0.h F with
  |some xs=>(turns F xs (λv a7=>(qGa x y v).elim .bad λl=>(ev elt { a7 with l:=l,e:=a0.e }).bind λr aD=>.ok (some r) aD) xs a0).bind λD a7=>fits D.length (.ok (.list D) { a0 with h:=a7.h })
  |Option.none=>.bad
section
variable{P:Par}{fr:Ln}{A:w4}{W:Wd}{σ:St}{s:g6}
theorem vG:(j0:Int)<2 ^ 63:=by decide
theorem qJ(e:r=.ok v σ')(st:Step P fr env W σ s W' σ' s')(h:VR W' σ'.n v c):Post P fr env W σ s r c s':=⟨v,σ',W',e,st,h⟩
theorem zY(I:Inv P fr W σ.h s)(hv:VR W σ.n v c)(e:asList σ.h v=some xs):∃a items,c=.ref a/\s.heap.IsList a items/\VRs W σ.n xs items.toList/\items.size<=j0:=by
 obtain hv:=hv.dat;cases v with
 |list =>refine fy hv λq q q q u a b d z r q=>?_;subst u;subst e;exact⟨_,_,rfl,⟨_,(I.frz _ _ a).1,b,_,d⟩,r,z⟩
 |ref =>obtain⟨rfl,h⟩:=hv;obtain⟨_,F,hg,D⟩:=I.o _ _ (qHz e);refine bi D.inv_list λq q u r z=>?_;subst u;exact⟨_,_,rfl,⟨_,hg,rfl,_,rfl⟩,r,z⟩
 |_=>exact zN1 e
theorem uI:typeLookup (.type "re.Match") "__bool__"=pure none:=by rw[dV,w3];kernel_rfl
theorem qAe:typeLookup (.type "re.Match") "__len__"=pure none:=by rw[dV,w3];kernel_rfl
theorem qGq{E:Pv}{a:Nat}(u:s.TypeIs (.ref a) "re.Match")(h:Q true s):wpAny M A (truthy (.ref a)) Q E s:=by refine d8 (wpAny_callSpecial?_none u uI ?_);exact d8 (wpAny_specialOf u qAe (g7 h))
theorem truthy_ok{E:Pv}(I:Inv P fr W σ.h s){v:V}{c:j7}{b:Bool}{Q:Bool->g6->Prop}(hv:VR W σ.n v c)(e:truV σ.h v=some b)(h:∀t,Q b { s with toks:=t }):wpAny P.M A (truthy c) Q E s:=by
 obtain key:∀xs,asList σ.h v=some xs->b=(!xs.isEmpty)->wpAny P.M A (truthy c) Q E s:=λxs O N=>by
  refine bu (zY I hv O) λa items F L D J=>?_;subst F;refine wpAny_truthy_list L (lA (Int.ofNat_le.mpr J) vG) ?_;rw[(by
   rw[<- Array.isEmpty_toList]
   revert D
   generalize items.toList=l
   intro D
   cases D <;> rfl:items.isEmpty=xs.isEmpty),<- N];exact h _
 refine bC λu=>?_;replace list:=λq=>u ((λq =>
  ae (qb q) λxs h1 h2=>    key xs h1 h2.symm) q)
 clear key;have hv:=hv.dat;cases v with
 |none=>obtain rfl:=hv;subst e;exact u (truthy_none (h s.toks))
 |bool b=>obtain rfl:=hv;subst e;exact u (wpAny_truthy_bool (h s.toks))
 |int i=>obtain⟨_,rfl⟩:=hv;subst e;exact u (PySem.P.truthy_int (h s.toks))
 |mt=>obtain⟨_,_,_,_,_,_,_,_,_,rfl,a,b,_⟩:=hv;subst e;exact u (qGq ⟨_,(I.frz _ _ a).1,b⟩ (h s.toks))
 |list=>exact list e
 |ref=>exact list e
 |_=>exact zN1 e
theorem kH(u:bS x)(D:bS y):bS (x++y):=by show(x.cps++y.cps).all _=true;rw[Array.all_append,i6];exact⟨u,D⟩
theorem VR.strLe(h:VR W n (.str x) c):x.length<=j0:=bh h.inv_str λq q a q=> a
theorem jJ(I:Inv P fr W σ.h s)(L:Loc P env W σ s.heap)(F:VRs W σ.n xs items.toList)(D:items.size<=j0)(e:s'.heap=s.heap.push { cls:=.type "list",data:=.seq items })(hg:s'.gens=s.gens)(u:s'.os=s.os):Post P fr env W σ s (.ok (.list xs) σ) (.ref s.heap.objs.size) s':=by
 obtain st:=Step.freeze I L { cls:=.type "list",data:=.seq items } rfl e hg u;exact⟨_,σ,_,rfl,st,.list (o:={ cls:=.type "list",data:=.seq items }) (items:=items) (e:=0) (ax rfl rfl) rfl rfl D (F.mono st.nx.wle (i5 _)) rfl⟩
theorem qFe(I:Inv P fr W σ.h s)(L:Loc P env W σ s.heap)(F:VRs W σ.n xs items.toList)(D:items.size<=j0)(e:s'.heap=s.heap.push { cls:=.type "tuple",data:=.seq items })(hg:s'.gens=s.gens)(u:s'.os=s.os):Post P fr env W σ s (.ok (.tup xs) σ) (.ref s.heap.objs.size) s':=by
 obtain st:=Step.freeze I L { cls:=.type "tuple",data:=.seq items } rfl e hg u;exact⟨_,σ,_,rfl,st,.tup (o:={ cls:=.type "tuple",data:=.seq items }) (items:=items) (e:=0) (ax rfl rfl) rfl rfl D (F.mono st.nx.wle (i5 _))⟩
theorem qEp{x y:Str}(h:(x.length==0)):x++y=y:=by have:x.cps= #[]:=dY (by simpa[Str.length]using h);show Str.mk (x.cps++y.cps)=y;rw[this];simp
theorem qEo{x y:Str}(h:(y.length==0)):x++y=x:=by have:y.cps= #[]:=dY (by simpa[Str.length]using h);show Str.mk (x.cps++y.cps)=x;rw[this];simp
theorem qDj(h:(qUt f a b).st σ≠.bad):∃x y,a=.int x/\b=.int y:=by obtain⟨x,e1⟩:=qU (o:=qZ a) (f:=λx=>(qZ b).elim Ov.bad λy=>f x y) (b:=Ov.bad) λq=>h (g0 (Ov.st · σ) q);obtain⟨y,e2⟩:=qU (o:=qZ b) (f:=λy=>f x y) (b:=Ov.bad) λq=>h (g0 (Ov.st · σ) ((by unfold qUt;rw[e1];rfl:qUt f a b=(qZ b).elim Ov.bad λy=>f x y).trans q));exact⟨x,y,qI e1,qI e2⟩
set_option tactic.hygienic true in
theorem zJq(I:Inv P fr W σ.h s)(L:Loc P env W σ s.heap)(Y:VR W σ.n a ca)(hb:VR W σ.n b cb)(u:(addV σ.h a b).st σ≠.bad):wpAny P.M A (binaryOp .Add ca cb) (Post P fr env W σ s ((addV σ.h a b).st σ)) NoE s:=by
 refine bC λN=>?_;cases e1:qZ a with
 |some i =>obtain rfl:=qI e1;obtain⟨j,e2⟩:=qU (o:=qZ b) (f:=λy=>Ov.ok (.int (i+y))) (b:=.bad) λq=>u (g0 (Ov.st · σ) q);obtain rfl:=qI e2;obtain⟨_,rfl⟩:=Y.inv_int;obtain⟨_,rfl⟩:=hb.inv_int;exact N (PySem.P.add_int (qJ rfl (Step.toks I L _) (.int ..)))
 |none=>cases e2:qV a with
  |some x =>
   obtain rfl:=qH e2;obtain⟨y,Z⟩:=qU (o:=qV b) (f:=λy=>if x.length+y.length<=j0 then Ov.ok (.str (x++y))else .bad) (b:=.bad) λq=>u (g0 (Ov.st · σ) q);obtain rfl:=qH Z;by_cases D:x.length+y.length<=j0
   .obtain e:addV σ.h (.str x) (.str y)=.ok (.str (x++y)):=d3 D;rw[e]at N;obtain⟨_,rfl,hx,S⟩:=Y.inv_str;obtain⟨_,rfl,hy,X⟩:=hb.inv_str;refine N (PySem.P.add_str ?_);split
    .rename_i h;exact qJ rfl (Step.refl I L) (by rw[qEp h];exact .str _ _ hy X)
    .split
     .rename_i h;exact qJ rfl (Step.refl I L) (by rw[qEo h];exact .str _ _ hx S)
     .obtain O:(x++y).length<=j0:=by show(x.cps++y.cps).size<=_;rw[mF];exact D
      exact⟨O,qJ rfl (Step.toks I L _) (.str _ _ O (kH S X))⟩
   .exact u (g0 (Ov.st · σ) (b6 D))
  |none =>
   rw[(by unfold addV;rw[e1,e2];rfl:addV σ.h a b=(qFh a).elim .bad λxs=>(qFh b).elim .bad λys=>if xs.length+ys.length<=j0 then .ok (.list (xs++ys))else .bad)]at u N;obtain⟨xs,Z⟩:=qU (λq=>u (g0 (Ov.st · σ) q));obtain rfl:=qCy Z;obtain⟨ys,e4⟩:=qU (o:=qFh b) (f:=λys=>if xs.length+ys.length<=j0 then Ov.ok (.list (xs++ys))else .bad) (b:=.bad) λq=>u (g0 (Ov.st · σ) q);obtain rfl:=qCy e4;by_cases D:xs.length+ys.length<=j0
   .refine bu (zY I Y (xs:=xs) rfl) λl items a1 O hr hz=>bu (zY I hb (xs:=ys) rfl) λb J aa a7 U ak=>?_;obtain⟨⟨cls,dd,data,sl⟩,ho,hc,n,hd⟩:=id O;obtain⟨⟨ah,a8,ac,a4⟩,T,a2,n2,a9⟩:=id a7;subst hc;subst hd;subst a2;subst a9;obtain h1:=hr.length;obtain h2:=U.length;rw[h9]at h1 h2;obtain hs:items.size+J.size<=j0:=by rw[h1,h2];exact D
    refine N ?_;show wpAny _ _ _ (Post P fr env W σ s ((if xs.length+ys.length<=j0 then Ov.ok (.list (xs++ys))else .bad).st σ)) NoE s;rw[d3 D,a1,aa];exact concat_meets ⟨_,ho,rfl⟩ ⟨_,T,rfl⟩ noFill_list_add seq_list_add PySem.F.slot_list_add PySem.F.entry_list_add (PySem.F.args_list_add_2 _ _) (list_addW l b items J n n2 dd a8 sl a4 hs) ⟨ho,T,jJ (items:=items++J) I L (by rw[mB];exact hr.append U) (by rw[mF];exact hs) rfl rfl rfl⟩
   .exact u (g0 (Ov.st · σ) (b6 D))
set_option tactic.hygienic true in
theorem zHa(I:Inv P fr W σ.h s)(L:Loc P env W σ s.heap)(O:VR W σ.n (.str x) N)(S:VR W σ.n b J)(D:(qUi x b).st σ≠.bad):wpAny P.M A (binaryOp .Mult N J) (Post P fr env W σ s ((qUi x b).st σ)) NoE s:=by
 revert D;unfold qUi;intro D;obtain⟨i,hi⟩:=qU (α:=Int) (λq=>D (by rw[q];rfl));obtain rfl:=qI hi;revert D;show Ov.st (if i=3/\x.length=1 then _ else _) σ≠_->wpAny _ _ _ (Post P fr env W σ s (Ov.st (if i=3/\x.length=1 then _ else _) σ)) NoE _;intro D;split at D
 .rename_i h;rw[d3 h];obtain⟨rfl,h1⟩:=h;obtain⟨t,rfl,T,F⟩:=O.inv_str;obtain⟨u,rfl⟩:=S.inv_int;refine SB.mul ⟨by decide,λz z=>by rw[h1];decide,λz z=>by rw[h1];decide⟩ λt' k=>?_;rw[(by
   refine bc pi (bc (by rw[h1];decide) ?_)
   show(⟨#[]++x.cps++x.cps++x.cps⟩:Str)=⟨x.cps++x.cps++x.cps⟩
   rw[Array.empty_append]:Txt.mul x 3=x++x++x)]
  have h3:(x++x++x).length=3:=by show(x.cps++x.cps++x.cps).size=3;have:x.cps.size=1:=h1;rw[mF,mF,this]
  exact qJ rfl (Step.toks I L _) (.str _ _ (by rw[h3];decide) (kH (kH F F) F))
 .exact d9 rfl D
theorem zGz(I:Inv P fr W σ.h s)(L:Loc P env W σ s.heap)(J:VR W σ.n a D)(N:VR W σ.n b F)(u:(zMx a b).st σ≠.bad):wpAny P.M A (binaryOp .Mult D F) (Post P fr env W σ s ((zMx a b).st σ)) NoE s:=by
 obtain⟨x,O⟩:=qU (show(qV a).elim Ov.bad (λx=>qUi x b)≠.bad fromλq=>u (by show((qV a).elim Ov.bad (λx=>qUi x b)).st σ=.bad;rw[q];rfl));obtain rfl:=qH O;exact zHa I L J N u
set_option tactic.hygienic true in
theorem zJd(I:Inv P fr W σ.h s)(L:Loc P env W σ s.heap){S:j7}(O:VR W σ.n a S)(J:VR W σ.n b T)(u:(qOx σ.h op a b).st σ≠.bad):wpAny P.M A (binaryOp op S T) (Post P fr env W σ s ((qOx σ.h op a b).st σ)) NoE s:=by
 cases op with
 |Add=>exact zJq I L O J u
 |Sub =>refine bp (qDj u) λx y F D=>?_;subst F;subst D;obtain⟨_,rfl⟩:=O.inv_int;obtain⟨_,rfl⟩:=J.inv_int;exact PySem.P.sub_int (qJ rfl (Step.toks I L _) (.int ..))
 |Mult=>exact zGz I L O J u
 |FloorDiv =>
  refine bp (qDj u) λx y F D=>?_;subst F;subst D;revert u;show(if 0<y/\y<1000 then _ else Ov.bad).st σ≠.bad->wpAny _ _ _ (Post P fr env W σ s ((if 0<y/\y<1000 then _ else Ov.bad).st σ)) NoE _;obtain⟨_,rfl⟩:=O.inv_int;obtain⟨_,rfl⟩:=J.inv_int;intro u;split at u
  .rename_i N;rw[d3 N];exact floordiv_int (Int.ne_of_gt N.1) (qJ rfl (Step.toks I L _) (.int ..)) (hp:=.inl (PyProof.noPylong_small (by lia)))
  .exact d9 rfl u
 |Mod =>
  refine bp (qDj u) λx y F D=>?_;subst F;subst D;revert u;show(if y=0 then Ov.bad else _).st σ≠.bad->wpAny _ _ _ (Post P fr env W σ s ((if y=0 then Ov.bad else _).st σ)) NoE _;obtain⟨_,rfl⟩:=O.inv_int;obtain⟨_,rfl⟩:=J.inv_int;intro u;split at u
  .exact d9 rfl u
  .rename_i N;rw[b6 N];exact mod_int' N (qJ rfl (Step.toks I L _) (.int ..))
 |_=>exact d9 rfl u
inductive All2{α β:Type}(R:α->β->Prop):List α->List β->Prop
 |nil:All2 R [] []
 |cons{a b l m}:R a b->All2 R l m->All2 R (a::l) (b::m)
theorem wU:∀{l:List α}{r:List β},l.mapM f=some r->All2 (λa b=>f a=some b) l r:=by
 intro I;induction I with
 |nil=>intro r h;simp at h;subst h;exact .nil
 |cons a l D =>intro r h;rw[iF]at h;refine px h λb F h=>ae (pz h) λbs u h=>?_;subst h;exact .cons F (D u)
theorem wS{f:V->Option PyData}(F:∀v c d,VR W n v c->f v=some d->∃as,Reads h c d as/\d.canLay0/\d.depth<=m)(hv:VRs W n xs cs):All2 (λa b=>f a=some b) xs u->∃as,ReadsAll h cs u as/\PyData.canLayAll0 u/\pA u<=m:=by
 refine hv.ind (C:=λxs cs=>∀u,All2 (λa b=>f a=some b) xs u->∃as,ReadsAll h cs u as/\PyData.canLayAll0 u=true/\pA u<=m) ?_ ?_ u
 .intro u q;cases q;exact⟨[],.nil,rfl,v0 _⟩
 .intro x c xs cs a b J u q;cases q with
  |cons e r =>refine bh (F _ _ _ a e) λas h1 h2 h3=>bh (J _ r) λbs D I L=>⟨_,.cons h1 D,?_,Nat.max_le.mpr ⟨h3,L⟩⟩;show(_&&_)=true;rw[h2,I];rfl
theorem wX(I:Inv P fr W σ.h s):∀(m:Nat)(v:V)(c:j7)(d:PyData),VR W σ.n v c->dat σ.h m v=some d->∃as,Reads s.heap c d as/\d.canLay0/\d.depth<=m:=by
 intro m;induction m with
 |zero=>intro v c d hv e;cases e
 |succ m N =>
  intro v c d hv e;obtain hv:=hv.dat;cases v with
  |none=>obtain rfl:=hv;subst e;exact⟨_,.none,rfl,v0 _⟩
  |bool b=>obtain rfl:=hv;subst e;exact⟨_,.bool b,rfl,v0 _⟩
  |int i=>refine bf hv λt u=>?_;subst u;subst e;exact⟨_,.int i t,rfl,v0 _⟩
  |str x=>refine bh hv λt u q o=>?_;subst u;subst e;exact⟨_,.str x t,o,v0 _⟩
  |list =>refine fy hv λq q q q u a b L z r q=>?_;subst u;refine qa (e) λO h1 u=>?_;subst u;exact bh (wS N r (wU h1)) λas D F J=>⟨_,.list (I.frz _ _ a).1 b L D,F,n9 J⟩
  |tup =>refine dc hv λq q q q u a b L z r=>?_;subst u;refine qa (e) λO h1 u=>?_;subst u;exact bh (wS N r (wU h1)) λas D F J=>⟨_,.tuple (I.frz _ _ a).1 b L D,F,n9 J⟩
  |ref =>obtain⟨rfl,hk⟩:=hv;refine px (e) λys T e=>ae (qb e) λO h1 u=>?_;subst u;obtain⟨_,U,hg,S⟩:=I.o _ _ (qHz T);refine bi S.inv_list λq q u r z=>?_;subst u;exact bh (wS N r (wU h1)) λas D F J=>⟨_,.list hg rfl rfl D,F,n9 J⟩
  |_=>exact zN1 e
theorem qVz(h:(zDb o).st σ≠.bad):∃b,o=some b:=by
 cases o with
 |none=>exact d9 rfl h
 |some b=>exact⟨b,rfl⟩
theorem qQk(h:o.map (!·)=some b):o=some !b:=by
 cases o with
 |none=>cases h
 |some c=>subst h;simp
theorem qRb(h:eqB H a b=some r):∃x y,dat H 8 a=some x/\dat H 8 b=some y/\r=gQ x y:=by refine px h λx h1 h2=>ae (qb h2) λy h3 u=>?_;subst u;exact⟨x,y,h1,h3,rfl⟩
theorem qCu(h:zGs f a b=some r):∃x y,a=.int x/\b=.int y/\r=f x y:=ae (pz h) λx e1 h=>ae (qb h) λy e2 h=>⟨x,y,qI e1,qI e2,h.symm⟩
theorem qQv:isB a b=some r->b=.none/\qHl a=some r:=by cases b <;> intro h <;> first|exact⟨rfl,h⟩|exact zN1 h
theorem qFl{W:Wd}{n:Nat}{a:V}{u:j7}{r:Bool}(D:VR W n a u):qHl a=some r->plainIs u .none/\(u == .none)=r:=by have hv:=D.dat;clear D;cases a <;> intro h <;> first|exact zN1 h|(obtain rfl:=hv;exact⟨rfl,b5 h⟩)|(obtain⟨_,rfl⟩:=hv;exact⟨rfl,b5 h⟩)|(obtain⟨_,_,_,_,rfl,_⟩:=hv;exact⟨rfl,b5 h⟩)|(obtain⟨_,_,_,_,_,_,_,_,_,rfl,_⟩:=hv;exact⟨rfl,b5 h⟩)
theorem zIx{lv:Nat}(F:Fm P lv fr A env)(I:Inv P fr W σ.h s)(L:Loc P env W σ s.heap){op:CmpOp}{a b:V}{X Y:j7}(O:VR W σ.n a X)(N:VR W σ.n b Y){r:Bool}(D:zQk σ.h op a b=some r){Q:Pv}{E:Pv}(J:Q (.bool r) s):wpAny P.M A (compareOp op X Y) Q E s:=by
 have U:=F.units;have two:∀{x y:PyData},dat σ.h 8 a=some x->dat σ.h 8 b=some y->∃as bs,Reads s.heap X x as/\Reads s.heap Y y bs/\x.canLay0=true/\y.canLay0=true/\A.units+min x.depth y.depth<cLine:=by intro x y h1 h2;exact bh (wX I 8 a X x O h1) λas r1 r2 r3=>bh (wX I 8 b Y y N h2) λbs g1 g2 g3=>⟨as,bs,r1,g1,r2,g2,i9 (u2 (n5 _ (20*lv)) (b7 (lE _ _) (b7 r3 pi))) U⟩
 cases op with
 |Eq =>refine bi (qRb D) λx y h1 h2 u=>?_;subst u;exact cy (two h1 h2) λas bs q1 Z q3 q4 q5=>SeqAt.compareEq_reads q1 Z q3 q4 q5 J
 |NotEq =>exact bi (qRb (qQk D)) λx y h1 h2 h3=>cy (two h1 h2) λas bs q1 Z q3 q4 q5=>SeqAt.compareNe_reads q1 Z q3 q4 q5 (by rw[<- h3,not_not];exact J)
 |Lt=>refine bi (qCu D) λx y u T S=>?_;subst u;subst T;subst S;obtain⟨_,rfl⟩:=O.inv_int;obtain⟨_,rfl⟩:=N.inv_int;exact PySem.P.lt_int J
 |Gt=>refine bi (qCu D) λx y u T S=>?_;subst u;subst T;subst S;obtain⟨_,rfl⟩:=O.inv_int;obtain⟨_,rfl⟩:=N.inv_int;exact PySem.P.gt_int J
 |GtE=>refine bi (qCu D) λx y u T S=>?_;subst u;subst T;subst S;obtain⟨_,rfl⟩:=O.inv_int;obtain⟨_,rfl⟩:=N.inv_int;exact PySem.P.ge_int J
 |In =>
  replace D:(qV b).elim (inL σ.h a b) (λx=>(qV a).map λy=>m6 x y)=some r:=D;clear two;cases hx:qV b with
  |some x =>replace D:=hx▸D;refine qa D λy h1 u=>?_;subst u;obtain rfl:=qH hx;obtain rfl:=qH h1;refine ae O.inv_str λq u q=>?_;subst u;refine ae N.inv_str λq u q=>?_;subst u;exact PySem.P.in_str J
  |none =>rw[hx]at D;refine px (D) λx h1 h2=>ae (pz h2) λys h3 h4=>ae (qb h4) λl h5 u=>?_;subst u;refine bh (wX I 8 a X x O h1) λas r1 r2 r3=>?_;obtain⟨k,items,rfl,⟨o,ho,hc,n,hd⟩,hv,hz⟩:=zY I N h3;refine bh (wS (wX I 7) hv (wU h5)) λbs g1 g2 g3=>SeqAt.in_list_reads (.list ho hc hd g1) r1 g2 r2 ?_ J;have:=gB (pA l) x.depth;exact gr U r3
 |Is =>obtain⟨rfl,h⟩:=qQv D;cases N;obtain⟨h1,h2⟩:=qFl O h;exact wpAny_is_plain h1 (by rw[h2];exact J)
 |IsNot =>obtain⟨rfl,h⟩:=qQv (qQk D);cases N;obtain⟨h1,h2⟩:=qFl O h;exact wpAny_isNot_plain h1 (by rw[h2,not_not];exact J)
 |NotIn =>refine px (D) λx h1 h2=>ae (qb h2) λy h3 u=>?_;subst u;clear two U I D;obtain rfl:=qH h1;obtain rfl:=qH h3;refine ae O.inv_str λq u q=>?_;subst u;refine ae N.inv_str λq u q=>?_;subst u;exact PySem.P.notIn_str J
 |_=>cases D
theorem qRi(F:Fm P lv fr A env)(I:Inv P fr W σ.h s)(L:Loc P env W σ s.heap)(O:VR W σ.n a u)(S:VR W σ.n b D)(N:(uS σ.h op a b).st σ≠.bad):wpAny P.M A (compareOp op u D) (Post P fr env W σ s ((uS σ.h op a b).st σ)) NoE s:=by
 refine bf (qVz N) λr J=>?_;rw[(by unfold uS;rw[J];rfl:uS σ.h op a b=.ok (.bool r))];exact zIx F I L O S J (qJ rfl (Step.refl I L) (.bool _))
theorem zGy(I:Inv P fr W σ.h s)(L:Loc P env W σ s.heap)(F:VR W σ.n a u)(D:(negV a).st σ≠.bad):wpAny P.M A (unaryOp .USub u) (Post P fr env W σ s ((negV a).st σ)) NoE s:=by
 obtain⟨i,e⟩:=qU (o:=qZ a) (f:=λa=>Ov.ok (.int (-a))) (b:=.bad) λq=>D (g0 (Ov.st · σ) q);obtain rfl:=qI e;obtain⟨_,rfl⟩:=F.inv_int;exact PySem.P.neg_int (qJ rfl (Step.toks I L _) (.int ..))
theorem xE(h:qBq u=false)(o i:j7):subscripted u false o i=operate [o,i] (getItem o i):=by cases u <;> first|rfl|exact zT1 h
theorem qMp(h:seqIndex? k n=some j):(0<=k/\k<n/\k.toNat=j)\/(k<0/\0<=k+n/\(k+n).toNat=j):=by
 obtain at_:∀i:Int,(if(decide (0<=i)&&decide (i<n))=true then some i.toNat else none)=some j->0<=i/\i<n/\i.toNat=j:=λi h=>by
  by_cases q:(decide (0<=i)&&decide (i<n))=true
  .obtain h:=aw q h;obtain q':=Bool.and_eq_true_iff.mp q;exact⟨j6 q'.1,j6 q'.2,b5 h⟩
  .replace h:=ao q h;cases h
 by_cases u:k<0
 .exact bg (at_ (k+n) (by rw[<- (d3 u:(if k<0 then k+n else k)=k+n)];exact h)) λa z b=>.inr ⟨u,a,b⟩
 .exact .inl (at_ k (by rw[<- (b6 u:(if k<0 then k+n else k)=k)];exact h))
theorem qAh{E:Pv}{Q:Pv}(F:s.heap.IsList l items)(u:kT k)(J:seqIndex? k items.size=some j)(I:items[j]?=some x)(h:Q x s):wpAny P.M A (getItem (.ref l) (.int k t)) Q E s:=by
 unfold kT at u;simp only[i6,n8]at u;rcases qMp J with⟨D,h1,e⟩|⟨D,h1,e⟩
 .exact wpAny_getItem_list F D u.2 (by rw[e];exact I) h
 .exact wpAny_getItem_list_neg F D (Int.add_nonneg_iff_neg_le.mp h1) u.1 (by rw[e];exact I) h
theorem qSp(h:bS x){j:Nat}(hc:x.cps[j]?=some c):bS ⟨#[c]⟩=true:=by have:=Array.all_eq_true_iff_forall_mem.mp (h) c (Array.mem_of_getElem? hc);show(#[c]:Array Nat).all _=true;simpa using this
theorem qLs(I:Inv P fr W σ.h s)(h:VR W σ.n (.tup ys) c):∃t o items e,c=.ref t/\s.heap.get? t=some o/\o.cls=.type "tuple"/\o.data=.seq items e/\VRs W σ.n ys items.toList:=by refine dc h.dat λq q q q u a b d z r=>?_;subst u;exact⟨_,_,_,_,rfl,(I.frz _ _ a).1,b,d,r⟩
theorem zHr{a i:V}(I:Inv P fr W σ.h s)(L:Loc P env W σ s.heap){ca ci:j7}(Y:VR W σ.n a ca)(hi:VR W σ.n i ci)(U:(idxV σ.h a i).st σ≠.bad){T sl:Expr}(S:qBq sl=false):wpAny P.M A (subscriptTail T sl ca ci) (Post P fr env W σ s ((idxV σ.h a i).st σ)) NoE s:=by
 obtain hne':idxV σ.h a i≠.bad:=λq=>U (by rw[q];rfl);clear U;refine bf (qU hne') λk ei=>?_;obtain rfl:=qI ei;refine bf hi.inv_int λu D=>?_;subst D;by_cases N:kT k=true
 .cases es:qV a with
  |some x =>
   obtain rfl:=qH es;obtain he:idxV σ.h (.str x) (.int k)=((seqIndex? k x.length).bind (x.cps[·]?)).elim .bad λc=>.ok (.str ⟨#[c]⟩):=d3 N;rw[he]at hne' |-;refine bf (qU hne') λc hc=>?_;rw[hc];refine bh Y.inv_str λt D hz a6=>?_;subst D;exact rH (eG s x t) PySem.F.slot_str_getitem.lookup (ae (pz hc) λj h1 h2=>PySem.P.getItem_str (by
    unfold kT at N
    rw[i6,n8,n8]at N
    rw[iG,lF,lF]
    exact⟨Int.not_lt.mpr N.1,Int.not_le.mpr N.2⟩) hc (qJ rfl (Step.toks I L _) (.str _ _ (by show 1<=j0;decide) (qSp a6 h2)))) (xE S _ _)
  |none =>
   rw[(by
    refine(d3 N).trans ?_
    rw[es]:idxV σ.h a (.int k)=(zDl σ.h a).elim .bad λxs=>((seqIndex? k xs.length).bind (xs[·]?)).elim .bad .ok)]at hne' |-
   refine bf (qU hne') λxs hx=>?_;rw[hx]at hne' |-;refine bf (qU (show((seqIndex? k xs.length).bind (xs[·]?)).elim Ov.bad Ov.ok≠.bad from hne')) λv hv=>?_;rw[(by
    show((seqIndex? k xs.length).bind (xs[·]?)).elim Ov.bad Ov.ok=_
    rw[hv];rfl:(some xs).elim Ov.bad (λxs=>((seqIndex? k xs.length).bind (xs[·]?)).elim .bad .ok)=.ok v)]
   by_cases ht:∃ys,a=.tup ys
   .refine bf ht λys D=>?_;subst D;clear ht hne';subst hx;refine cn (qLs I Y) λt o items e D h1 h2 h3 h4=>?_;subst D;have J:=h4.length;rw[h9]at J;refine px hv λj h5 h6=>ae (h4.get h6) λc X Z=>?_;have O:=N;unfold kT at O;rw[i6,n8,n8]at O;exact rH ⟨o,h1,h2⟩ PySem.F.slot_tuple_getitem.lookup (PyProof.Rows.getItem_tuple ⟨o,h1,h2,e,h3⟩ O.1 O.2 (by rw[J];exact h5) (by rw[<- aV];exact X) (qJ rfl (Step.refl I L) Z)) (xE S _ _)
   refine bu (zY I Y (by
    rw[<- hx]
    cases a <;> first|rfl|exact d9 ⟨_,rfl⟩ ht)) λl items D hl hr hz=>?_;subst D
   obtain J:=hr.length;rw[h9]at J;refine rH hl.typeIs slot_list_getitem.lookup (ae (pz hv) λj h1 h2=>ae (hr.get h2) λc X Z=>?_) (xE S _ _);exact qAh hl N (by rw[J];exact h1) (by rw[<- aV];exact X) (qJ rfl (Step.refl I L) Z)
 .exact d9 (b6 N) hne'
theorem vT{H:Hp}{a:V}{i:Int}{xs:List V}{j:Nat}{v:V}(hs:qV a=none)(h:asList H a=some xs)(u:kT i)(D:seqIndex? i xs.length=some j)(F:xs[j]?=some v):idxV H a (.int i)=.ok v:=by
 refine(d3 u).trans ?_;rw[hs];rw[(by
  clear hs u D F
  cases a <;> first|rfl|(cases h;done):zDl H a=asList H a),h]
 show((seqIndex? i xs.length).bind (xs[·]?)).elim Ov.bad Ov.ok=_;rw[D];show(xs[j]?).elim Ov.bad Ov.ok=_;rw[F];rfl
theorem qHp(u:kT i)(D:seqIndex? i x.length=some j)(F:x.cps[j]?=some c):idxV H (.str x) (.int i)=.ok (.str ⟨#[c]⟩):=by refine(d3 u).trans ?_;rw[D];show(x.cps[j]?).elim Ov.bad _=_;rw[F];rfl
theorem qGg(hv:VR W n v c)(e:qHy v=some p):∃q:Option (Int×Tok),c=partValue q/\p=q.map (·.1)/\IsPart c p:=by
 have hv:=hv.dat;cases v with
 |none=>obtain rfl:=hv;subst e;exact⟨none,rfl,rfl,.none⟩
 |int i=>obtain⟨t,rfl⟩:=hv;subst e;exact⟨some (i,t),rfl,rfl,.int i t⟩
 |_=>exact zN1 e
theorem VRs.cut{W:Wd}{n:Nat}{xs:List V}{cs:Lv}(h:VRs W n xs cs)(l u:Option Int):VRs W n (Mine.Lake.cut xs l u) (Mine.Lake.cut cs l u):=by unfold Mine.Lake.cut;rw[h.length];exact(h.drop _).take _
theorem zIy(n:Nat)(i:Int):clipAt n i<=n:=by have:=clipAt_cast n i;exact gs this
set_option tactic.hygienic true in
theorem qTi(x:Str)(l u:Option Int):Txt.slice x l u=⟨(cut x.cps.toList l u).toArray⟩:=by
 have h1:fY l u 1 x.length=sliceRange ((l.elim 0 (clipAt x.length):Nat):Int) ((u.elim x.length (clipAt x.length):Nat):Int) 1:=by unfold fY;cases l <;> cases u <;> simp[clipAt_cast]
 have e:(fY l u 1 x.length).filterMap (x.cps[·]?)=cut x.cps.toList l u:=by rw[h1,sliceRange_one,pick_run];unfold cut;rw[h9];rfl
 unfold Txt.slice;split
 .rename_i h;have F:(fY l u 1 x.length).length=x.length:=beq_iff_eq.mp h;obtain h3:cut x.cps.toList l u=x.cps.toList:=by
   have hs:(cut x.cps.toList l u).Sublist x.cps.toList:=(oV _ _).trans (nQ _ _);refine hs.eq_of_length ?_;have D:(u.elim x.length (clipAt x.length))-(l.elim 0 (clipAt x.length))=x.length:=by rw[h1,sliceRange_one]at F;simpa using F
   have J:u.elim x.length (clipAt x.length)<=x.length:=by
    cases u with
    |none=>exact i5 _
    |some i=>exact zIy _ _
   have I:x.cps.toList.length=x.length:=h9;unfold cut;rw[I,w9,t3,I,D];exact bQ (b7 (v6 D.symm) (Nat.sub_le_sub_right J _))
  rw[h3]
 .rw[e]
theorem qSq(h:bS x)(l u:Option Int):bS ⟨(cut x.cps.toList l u).toArray⟩=true:=by
 show((cut x.cps.toList l u).toArray).all (· < 0x110000)=true;rw[Array.all_eq_true_iff_forall_mem];intro c hc;simpa using(by
  intro c hc
  have:=Array.all_eq_true_iff_forall_mem.mp (h) c (by simpa using hc)
  simpa using this:∀c∈x.cps.toList,c<0x110000) c (((oV _ _).trans (nQ _ _)).subset (by simpa using hc:c∈cut x.cps.toList l u))
theorem qEe(xs:List α)(l u:Option Int):(cut xs l u).length<=xs.length :=
 ((oV _ _).trans (nQ _ _)).length_le
set_option tactic.hygienic true in
theorem zFo(I:Inv P fr W σ.h s)(L:Loc P env W σ s.heap){a l u:V}{ca cl Z:j7}(ha:VR W σ.n a ca)(hl:VR W σ.n l cl)(hu:VR W σ.n u Z)(Y:(yF σ.h a l u).st σ≠.bad){value lo hi p}:wpAny P.M A (subscriptTail value (.Slice lo hi Option.none p) ca (.ref s.heap.objs.size)) (Post P fr env W σ s ((yF σ.h a l u).st σ)) NoE { s with heap:=s.heap.push { cls:=.type "slice",data:=.fields #[cl,Z,.none] } }:=by
 have D:Step P fr env W σ s W σ { s with heap:=s.heap.push { cls:=.type "slice",data:=.fields #[cl,Z,.none] } }:=Step.push I L _ rfl rfl rfl;have S:yF σ.h a l u≠.bad:=λq=>Y (by rw[q];rfl);clear Y;refine bf (qU S) λl' e1=>bh (qGg hl e1) λO J T i1=>?_;subst J;subst T;refine bf (qU (show(qHy u).elim Ov.bad _≠.bad fromλq=>S (by unfold yF;rw[e1];exact q))) λu' e2=>bh (qGg hu e2) λN J T i2=>?_;subst J;subst T;cases hs:qV a with
 |some x =>
  rw[(by unfold yF;rw[e1,e2,hs];rfl:yF σ.h a l u=.ok (.str ⟨(cut x.cps.toList (O.map (·.1)) (N.map (·.1))).toArray⟩))];obtain rfl:=qH hs;refine bh ha.inv_str λt J U X=>?_;subst J;refine rH (eG _ x t) PySem.F.slot_str_getitem.lookup (wpAny_getItem_str_slice (l:=O) (u:=N) (st:=none) ⟨_,eH _ rfl,rfl,rfl⟩ rfl ?_) (ops:=[.ref s.heap.objs.size,.str x t]) rfl;obtain hle:(⟨(cut x.cps.toList (O.map (·.1)) (N.map (·.1))).toArray⟩:Str).length<=j0:=by show(List.toArray _).size<=_;rw[s8];exact b7 (qEe x.cps.toList (O.map (·.1)) (N.map (·.1))) (h9▸U)
  obtain e:=qTi x (O.map (·.1)) (N.map (·.1));unfold Txt.slice at e;unfold sliceMade slicePicked;simp only[Option.map_none,Option.getD_none];split
  .rename_i h;rw[d3 h]at e;exact Post.after D (qJ rfl (Step.refl D.inv D.l) (by refine e▸?_;exact .str _ _ U X))
  .rename_i h;rw[b6 h]at e;rw[e];exact⟨hle,Post.after D (qJ rfl (Step.toks D.inv D.l _) (.str _ _ hle (qSq X _ _)))⟩
 |none =>
  rw[(by unfold yF;rw[e1,e2,hs];rfl:yF σ.h a l u=(asList σ.h a).elim .bad λxs=>.ok (.list (cut xs (O.map (·.1)) (N.map (·.1)))))]at S ⊢;refine bf (qU S) λxs hx=>?_;refine hx.symm▸?_;refine bu (zY D.inv ha hx) λk items J hL hr U=>?_;subst J;refine rH hL.typeIs slot_list_getitem.lookup (wpAny_getItem_list_slice hL (Heap.IsSliceOf.new ..) i1 i2 .none pi (Post.after D ?_) U) (ops:=[.ref s.heap.objs.size,.ref k]) rfl
  exact jJ (items:=slicePick items (O.map (·.1)) (N.map (·.1)) none) D.inv D.l (by rw[(by
   rw[slicePick_plain];unfold Mine.Lake.cut;rw[h9]:(slicePick items (O.map (·.1)) (N.map (·.1)) none).toList=Mine.Lake.cut items.toList (O.map (·.1)) (N.map (·.1)))];exact hr.cut _ _) (b7 (slicePick_size_le items (O.map (·.1)) (N.map (·.1)) none) U) rfl rfl rfl
end
structure ScOk(sc:Scope)(env:Env):Prop where
 l:∀x,sc.names.lookup x=some .local->env.kindOf x=some .local
 g:∀x,sc.names.lookup x=some .globalImplicit->env.kindOf x=some .globalImplicit
 e:∀x,(sc.names.lookup x=some .cell\/sc.names.lookup x=some .free)->env.kindOf x=some .cell\/env.kindOf x=some .free
 cell:∀x,sc.names.lookup x=some .cell->env.kindOf x=some .cell
 has:∀x,(env.kindOf x=some .cell\/env.kindOf x=some .free)->∃a,env.cells.lookup x=some a
def truRs(v:V)(σ:St):Rs Bool:=match truV σ.h v with|some b=>.ok b σ|Option.none=>.bad
def tr(f:St->Rs V)(σ:St):Rs Bool:=(f σ).bind truRs
def asArgs(f:St->Rs V)(σ:St):Rs (List V):=(f σ).bind λv σ'=>jT v σ' λxs σ'=>.ok xs σ'
def yD(M:Model)(A:w4)(u:j7)(s:g6):Prop:=∀(E:Pv)(Q:Keeper->g6->Prop),(∀k,Q k s)->wpAny M A (keeperOf u) Q E s
structure CxOk(P:Par)(cx:Cx):Prop where
 gl:∀x v,cx.gl x=some v->∃c mg mb,P.B.Ns eJ mg/\P.B.Ns fV mb/\(mg x=some c\/(mg x=none/\mb x=some c))/\∀W n,VR W n v c
 app:∀fr A env,Fm P cx.lvl fr A env->∀W σ s,Inv P fr W σ.h s->Loc P env W σ s.heap->∀f args cf cargs,VR W σ.n f cf->VRs W σ.n args cargs->(cx.app f args σ.h).lift σ≠.bad ->
  yD P.M A cf s/\wpAny P.M A (call cf cargs []) (Post P fr env W σ s ((cx.app f args σ.h).lift σ)) NoE s
 get:∀fr A env,Fm P cx.lvl fr A env->∀W σ s,Inv P fr W σ.h s->Loc P env W σ s.heap->∀o m co vf first,VR W σ.n o co->cx.get o m σ.h=some (vf,first)->∀(pl:Sem Bool)(E:Pv)(Q:j7×Lv->g6->Prop),
  (∀r s' W',Step P fr env W σ s W' σ s'->VR W' σ.n vf r.1->VRs W' σ.n first r.2->Q r s')->wpAny P.M A (getMethod co m pl) Q E s
 fld:∀fr A env,Fm P cx.lvl fr A env->∀W σ s,Inv P fr W σ.h s->Loc P env W σ s.heap->∀o f co,VR W σ.n o co->(cx.fld o f σ.h).st σ≠.bad ->
  wpAny P.M A (getAttr co f true) (Post P fr env W σ s ((cx.fld o f σ.h).st σ)) NoE s
section
variable{P:Par}{fr:Ln}{W:Wd}{σ:St}{s:g6}
theorem qHu{E:Pv}(hs:u.any (·.1)=false)(h:wpAny M A (spliced u) (λD s'=>Q ⟨D,[]⟩ s') E s):wpAny M A (evalArgs f true u []) Q E s:=by
 cases u with
 |nil =>refine d8 (j9 h (λD s' F=>d8 (g7 (r9 ?_))) λq q x=>x);exact d8 (g7 (d8 (g7 (g7 F))))
 |cons x r =>
  obtain⟨b,t⟩:=x;obtain hb:b=false:=by simp at hs;exact hs.1
  subst hb;exact Calls.evalArgs_plain h
theorem kJ{E:Pv}{first:Lv}{Q:Pv}(hs:u.any (·.1)=false)(h:wpAny M A (spliced u) (λI F=>yD M A f F/\wpAny M A (call f (first++I) []) Q E F) E s):wpAny M A (callWith pos f first u []) Q E s:=by
 unfold callWith;refine d8 (r9 (qHu hs (j9 h (λI F D=>d8 (eL ?_)) λq q x=>x)));rw[hs,show(false||([]:List (Option Str×Sem j7)).any (λx=>x.1.isNone))=false from rfl];have tail:∀{t:Sem j7},wpAny M A t Q E F->wpAny M A (t >>=λr=>holding [r] point >>=λq=>pure r) Q E F :=
  λL=>d8 (j9 L (λr N J=>d8 (r9 (wpAny_point (g7 J)))) λq q x=>x)
 refine d8 (D.1 _ _ λk=>?_);cases k with
 |frame =>
  dsimp only;split
  .exact tail D.2
  .exact tail (by unfold callMarked;exact Calls.wpAny_keep D.2)
 |boundFrame =>
  dsimp only;split
  .exact tail D.2
  .exact tail (by unfold callMarked;exact Calls.wpAny_keep D.2)
 |machine=>exact tail D.2
 |caller=>exact tail (wpAny_operating D.2)
def zRc(P:Par)(cx:Cx)(x:X)(fr:Ln)(A:w4)(env:Env):Ph->Prop
 | .e ex=>OkE P fr A env (eval ex env) (ev cx x)/\OkB P fr A env (isTrue ex env (eval ex env)) (tr (ev cx x))
 | .none=>OkE P fr A env (pure .none) (ev cx x)
 | .es l=>∀pos,(backTo pos (starEach l env)).any (·.1)=false/\(backTo pos (starEach l env)).length=l.length/\OkL P fr A env (spliced (backTo pos (starEach l env))) (asArgs (ev cx x))
 | .an l=>l≠[]/\∀pos whole,OkE P fr A env (eval (.BoolOp .And l pos) env) (ev cx x)/\OkB P fr A env (isTrue (.BoolOp .And l pos) env whole) (tr (ev cx x))
 | .or l=>l≠[]/\∀pos whole,OkE P fr A env (eval (.BoolOp .Or l pos) env) (ev cx x)/\OkB P fr A env (isTrue (.BoolOp .Or l pos) env whole) (tr (ev cx x))
 | .cond l=>l=[]/\∀σ,ev cx x σ=.ok (.bool true) σ
def Snd(P:Par)(cx:Cx)(x:X)(sc:Scope)(u:Ph):Prop:=∀fr A env,Fm P cx.lvl fr A env->ScOk sc env->zRc P cx x fr A env u
set_option tactic.hygienic true in
theorem zMp(h:OkE P fr A env t f)(J:∀(E:Pv)(Q:Bool->g6->Prop) s,wpAny P.M A t (λv F=>wpAny P.M A (truthy v) Q E F) E s->wpAny P.M A t' Q E s):OkB P fr A env t' (tr f):=λW σ s I L u=>by
 refine J _ _ s (qXf h I L u (λe s' h=>h) λv c W' σ' s' e st hv=>?_)
 obtain hb:tr f σ=truRs v σ':=Rs.bind_ok e
 rw[hb]at u |-
 unfold truRs at u |-
 revert u
 split <;> intro u
 .rename_i b D
  exact truthy_ok st.inv hv D λt=>⟨σ',W',rfl,st.trans (Step.toks st.inv st.l t)⟩
 .exact d9 rfl u
theorem qP(h:OkE P fr A env (eval ex env) f)(D:∀whole,isTrue ex env whole=(do let v <- whole;standAt ex.pos;holding [v] (truthy v))):OkB P fr A env (isTrue ex env (eval ex env)) (tr f):=zMp h λq q q u=>isTrue_plain u (D _)
theorem wQ(D:∀σ,ev cx x σ=.ok v σ)(u:∀W σ s,Inv P fr W σ.h s->Loc P env W σ s.heap->∀(Q:Pv)(E:Pv),(∀c t,VR W σ.n v c->Q c { s with toks:=t })->wpAny P.M A (eval ex env) Q E s):OkE P fr A env (eval ex env) (ev cx x):=λW σ s I L q=>u W σ s I L _ _ λc t hv=>by rw[D];exact qJ rfl (Step.toks I L t) hv
theorem vU(h:zF x):(x==("__debug__":Str))=false/\(x==("__classdict__":Str))=false:=by simp only[zF,i6,bne,fE]at h;exact h
theorem zEz(h:(zF x&&sc.names.lookup x==some .local)):Snd P cx (.v x) sc (.e (.Name x p)):=by
 intro fr A env F S;simp only[i6,w6]at h;obtain⟨hd,O⟩:=vU h.1;obtain hk:=S.l x h.2;obtain key:OkE P fr A env (eval (.Name x p) env) (ev cx (.v x)):=λW σ s I L u=>by
  obtain hev:ev cx (.v x) σ=(match σ.l.lookup x with|some v=>.ok v σ|Option.none=>.bad):=rfl;rw[hev]at u |-;cases hv:σ.l.lookup x with
  |none=>rw[hv]at u;exact d9 rfl u
  |some v =>obtain⟨m,N,J⟩:=L.l;obtain⟨_,c,hm,D⟩:=J x v hv;exact rE (iH L.kind hk N hm (qJ rfl (Step.refl I L) D)) hd
 exact⟨key,qP key λq=>rfl⟩
theorem zLr(h:(zF x&&(sc.names.lookup x==some .cell||sc.names.lookup x==some .free))):Snd P cx (.cv x) sc (.e (.Name x p)):=by
 intro fr A env F S;simp only[i6,eS,w6]at h;obtain⟨hd,O⟩:=vU h.1;obtain hk:=S.e x h.2;obtain key:OkE P fr A env (eval (.Name x p) env) (ev cx (.cv x)):=λW σ s I L u=>by
  obtain hev:ev cx (.cv x) σ=(match σ.e.lookup x with
   |some k=>(match σ.o k with|some (.cell (some v))=>.ok v σ|_=>.bad)
   |Option.none=>.bad):=rfl
  rw[hev]at u |-;cases D:σ.e.lookup x with
  |none=>rw[D]at u;exact d9 rfl u
  |some k =>
   rw[D]at u;dsimp only at u |-;obtain⟨v,hv⟩:∃v,σ.o k=some (.cell (some v)):=by
    revert u;cases σ.o k with
    |none=>exactλh=>d9 rfl h
    |some o=>cases o with
     |cell o=>cases o with
      |none=>exactλh=>d9 rfl h
      |some v=>exactλz=>⟨v,rfl⟩
     |_=>exactλh=>d9 rfl h
   .rw[hv];obtain⟨p,q⟩:=L.e x k D;obtain⟨_,c,hc,J⟩:=I.o k _ hv;cases J with
    |cell N J =>
     obtain hcell:s.heap.IsCell (W.ρ k) (some _):=⟨_,hc,N⟩
     refine rE ?_ hd;rcases hk with hk|hk
     .exact wpAny_loadName_cell L.kind hk (q (.inl hk)) hcell (qJ rfl (Step.refl I L) J)
     .refine wpAny_loadName_free L.kind hk (q (.inr hk)) hcell (qJ rfl (Step.refl I L) J) O
 exact⟨key,qP key λz=>rfl⟩
theorem qDc(I:Inv P fr W σ.h s)(h:P.B.Ns a m):s.heap.Ns a m:=h.keeps I.keep
set_option tactic.hygienic true in
theorem qYb(C:CxOk P cx)(h:(zF x&&sc.names.lookup x==some .globalImplicit)):Snd P cx (.g x) sc (.e (.Name x p)):=by
 intro fr A env F S;simp only[i6,w6]at h;refine bC λN=>?_;obtain⟨hd,O⟩:=vU h.1;refine N ?_;obtain hk:=S.g x h.2;obtain key:OkE P fr A env (eval (.Name x p) env) (ev cx (.g x)):=λW σ s I L u=>by
  obtain hev:ev cx (.g x) σ=(match cx.gl x with|some v=>.ok v σ|Option.none=>.bad):=rfl;rw[hev]at u |-;revert u;split <;> intro u
  .rename_i v hv;refine bw (C.gl x v hv) λc mg mb n1 J hc D=>Calls.Name_function_global (env:=env) L.kind hk ?_ hd;rcases hc with hc|⟨hc,hb⟩
   .exact Calls.loadGlobal_global (by rw[L.g];exact qDc I n1) hc (qJ rfl (Step.refl I L) (D _ _))
   .exact Calls.loadGlobal_builtin (by rw[L.g];exact qDc I n1) hc (by rw[L.bns];exact qDc I J) hb (qJ rfl (Step.refl I L) (D _ _))
  .exact d9 rfl u
 exact⟨key,qP key λq=>rfl⟩
theorem qXy:Snd P cx .none sc (.e (.Constant .none k p)):=λfr A env F S =>
 have u:OkE P fr A env (eval (.Constant .none k p) env) (ev cx .none):=wQ (v:=.none) (λq=>rfl) λW σ s I L Q E D=>λq q q=>D .none s.toks .none
 ⟨u,qP u λq=>rfl⟩
theorem qSu:Snd P cx .none sc .none:=λfr A env F S W σ s I L q=>g7 (qJ rfl (Step.refl I L) .none)
theorem qYf:Snd P cx (.bool b) sc (.e (.Constant (.bool b) k p)):=λfr A env F S =>
 have u:OkE P fr A env (eval (.Constant (.bool b) k p) env) (ev cx (.bool b)):=wQ (v:=.bool b) (λq=>rfl) λW σ s I L Q E D=>λq q q=>D (.bool b) s.toks (.bool b)
 ⟨u,qP u λq=>rfl⟩
theorem snd_tt:Snd P cx (.bool true) sc (.cond []):=λfr A env F S=>⟨rfl,λσ=>rfl⟩
theorem zFi:Snd P cx (.int i) sc (.e (.Constant (.int i) k p)):=λfr A env F S =>
 have u:OkE P fr A env (eval (.Constant (.int i) k p) env) (ev cx (.int i)):=wQ (v:=.int i) (λq=>rfl) λW σ s I L Q E D=>wpAny_Constant_int (D _ _ (.int _ _))
 ⟨u,qP u λq=>rfl⟩
theorem zFb(h:(decide (x.length<=j0)&&bS x)):Snd P cx (.str x) sc (.e (.Constant (.str x) k p)):=λfr A env F S=>by
 simp only[i6,n8]at h
 obtain key:OkE P fr A env (eval (.Constant (.str x) k p) env) (ev cx (.str x)):=wQ (v:=.str x) (λq=>rfl) λW σ s I L Q E u=>mZ (u _ _ (.str _ _ h.1 h.2))
 exact⟨key,qP key λq=>rfl⟩
theorem qXe{g:j7->j7->Sem j7}{k:V->V->St->Rs V}(ha:OkE P fr A env ta Y)(hb:OkE P fr A env tb T)(I:Inv P fr W σ.h s)(L:Loc P env W σ s.heap)(F:((Y σ).bind λD a0=>(T a0).bind λu a7=>k D u a7)≠.bad)(hg:∀W σ s D u N J,Inv P fr W σ.h s->Loc P env W σ s.heap->VR W σ.n D N->VR W σ.n u J->k D u σ≠.bad->wpAny P.M A (g N J) (Post P fr env W σ s (k D u σ)) NoE s):wpAny P.M A ta (λa U=>wpAny P.M A tb (λb X=>wpAny P.M A (g a b) (Post P fr env W σ s ((Y σ).bind λD a0=>(T a0).bind λu a7=>k D u a7)) NoE X)
   NoE U) NoE s:=by
 refine j9 (ha W σ s I L (Rs.bind_ne F)) (λN U ⟨D,a0,aB,aG,S,a2⟩=>?_) (λe s' h=>h.elim);rw[(Rs.bind_ok aG)]at F |-;refine j9 (hb aB a0 U S.inv S.l (Rs.bind_ne F)) (λJ X ⟨u,a7,aH,aN,O,Z⟩=>?_) (λe s' h=>h.elim);rw[(Rs.bind_ok aN)]at F |-;obtain st:=S.trans O;exact j9 (hg aH a7 X D u N J st.inv st.l (a2.mono O.nx.wle O.nx.le) Z F) (λc s' h=>h.after st) λe s' h=>h.after st
theorem zFl(O:Snd P cx a sc (.e l))(N:Snd P cx b sc (.e r)):Snd P cx (.bin op a b) sc (.e (.BinOp l op r p)):=λfr A env F S =>
 have D:OkE P fr A env (eval (.BinOp l op r p) env) (ev cx (.bin op a b)):=λW σ s I L u =>
  wpAny_BinOp (qXe (O fr A env F S).1 (N fr A env F S).1 I L u λW σ s U Y Z V I L J T u=>zJd I L J T u)
 ⟨D,qP D λq=>rfl⟩
theorem zFg(D:Snd P cx a sc (.e x)):Snd P cx (.neg a) sc (.e (.UnaryOp .USub x p)):=λfr A env F S=>by
 obtain key:OkE P fr A env (eval (.UnaryOp .USub x p) env) (ev cx (.neg a)):=λW σ s I L u=>by
  refine wpAny_UnaryOp (qXf (D fr A env F S).1 I L u (λe s' h=>h) λv c W' σ' s' e st hv=>?_)
  obtain r:ev cx (.neg a) σ=(negV v).st σ':=Rs.bind_ok e
  rw[r]at u |-
  exact j9 (zGy st.inv st.l hv u) (λc s' h=>h.after st) λe s' h=>h.after st
 exact⟨key,qP key λq=>rfl⟩
theorem zLj{g:j7->j7->Sem α}{k:V->V->St->Rs β}{Q:α->g6->Prop}{E:Pv}(ha:OkE P fr A env ta T)(hb:OkE P fr A env tb Y)(I:Inv P fr W σ.h s)(L:Loc P env W σ s.heap)(N:((T σ).bind λD a0=>(Y a0).bind λu a7=>k D u a7)≠.bad)(hE:∀e s',NoE e s'->E e s')(hg:∀J a7 F D u S O,((T σ).bind λD a0=>(Y a0).bind λu a7=>k D u a7)=k D u a7->Step P fr env W σ s J a7 F->VR J a7.n D S->VR J a7.n u O->wpAny P.M A (g S O) Q E F):wpAny P.M A ta (λa Z=>wpAny P.M A tb (λb F=>wpAny P.M A (g a b) Q E F) E Z) E s:=by
 refine j9 (ha W σ s I L (Rs.bind_ne N)) (λS Z ⟨D,a0,aB,aG,X,a3⟩=>?_) (λe s' h=>hE e s' h.elim);rw[(Rs.bind_ok aG)]at N hg;refine j9 (hb aB a0 Z X.inv X.l (Rs.bind_ne N)) (λO F ⟨u,a7,J,aN,U,a1⟩=>?_) (λe s' h=>hE e s' h.elim);exact hg J a7 F D u S O (Rs.bind_ok aN) (X.trans U) (a3.mono U.nx.wle U.nx.le) a1
theorem yB(e:f σ=.ok v σ'):tr f σ=truRs v σ':=Rs.bind_ok e
theorem qPt(e:tr f σ≠.bad):f σ≠.bad:=Rs.bind_ne e
theorem zG(h:truV σ.h v=some b):truRs v σ=.ok b σ:=by unfold truRs;rw[h]
set_option tactic.hygienic true in
theorem qIg(h:truRs v σ≠.bad):∃b,truV σ.h v=some b:=by
 unfold truRs at h;split at h
 .rename_i b u;exact⟨b,u⟩
 .exact d9 rfl h
theorem zOt(e:tr f σ=.ok b σ'):∃v,f σ=.ok v σ'/\truV σ'.h v=some b:=by
 cases D:f σ with
 |ok v a0 =>
  replace e:=(yB D).symm.trans e;obtain⟨F,u⟩:=qIg (v:=v) (σ:=a0) (by rw[e];intro q;cases q);replace e:=(zG u).symm.trans e;injection e with e h_;subst e h_
  exact⟨v,rfl,u⟩
 |bad=>unfold tr at e;replace e:=D▸e;cases e
theorem qCd{E:Pv}(h:OkB P fr A env t (tr f))(I:Inv P fr W σ.h s)(L:Loc P env W σ s.heap)(u:tr f σ≠.bad)(D:∀b v σ' W' s',f σ=.ok v σ'->truV σ'.h v=some b->Step P fr env W σ s W' σ' s'->Q b s'):wpAny P.M A t Q E s:=j9 (h W σ s I L u) (λb s' ⟨σ',W',e,st⟩=>ae (zOt e) λv h1 h2=>D b v σ' W' s' h1 h2 st) (λex s' h=>h.elim)
set_option tactic.hygienic true in
theorem zFe(T:Snd P cx a sc (.e x)):Snd P cx (.not a) sc (.e (.UnaryOp .Not x p)):=by
 intro fr A env F S;obtain J:=T fr A env F S;have D:∀σ,ev cx (.not a) σ=(ev cx a σ).bind λY a0=>match truV a0.h Y with|some b=>.ok (.bool !b) a0|Option.none=>.bad:=λz=>rfl
 obtain tne:∀σ,ev cx (.not a) σ≠.bad->tr (ev cx a) σ≠.bad:=λσ h=>by
  rw[D]at h;cases O:ev cx a σ with
  |ok v a0 =>
   rw[O]at h;rw[yB O];intro q;apply h;obtain hn:truV a0.h v=none:=by
    cases U:truV a0.h v with
    |none=>rfl
    |some b=>rw[zG U]at q;cases q
   show(match truV a0.h v with|some b=>Rs.ok (V.bool !b) a0|Option.none=>.bad)=.bad;rw[hn]
  |bad=>rw[O]at h;exact d9 rfl h
 refine⟨λW σ s I L u=>?_,λW σ s I L u=>?_⟩
 .refine wpAny_UnaryOp (qXf J.1 I L u (λe s' h=>h) λv c W' σ' s' e st hv=>?_);obtain r:ev cx (.not a) σ=(match truV σ'.h v with|some b=>.ok (.bool !b) σ'|Option.none=>.bad):=Rs.bind_ok e;rw[r]at u |-;revert u;split <;> intro u
  .rename_i b N;exact not_of (truthy_ok st.inv hv N λt=>qJ rfl (st.trans (Step.toks st.inv st.l t)) (.bool _))
  .exact d9 rfl u
 .exact isTrue_not (qCd J.2 I L (tne σ (qPt u)) λb v σ' W' s' e N st=>⟨σ',W',by rw[yB (by rw[D,Rs.bind_ok e,N])];rfl,st⟩)
theorem qPu{r:Rs V}:(r.bind g).bind truRs=r.bind λv σ'=>(g v σ').bind truRs:=by cases r <;> rfl
theorem zFk(ia:Snd P cx a sc (.e l))(Z:Snd P cx b sc (.e r))(h3:behindInMarks op r=false):Snd P cx (.cmp op a b) sc (.e (.Compare l [op] [r] p)):=by
 intro fr A env F S;obtain Ja:=ia fr A env F S;obtain Jb:=Z fr A env F S;refine⟨λW σ s I L u=>?_,λW σ s I L u=>?_⟩
 .exact wpAny_Compare1 (qXe Ja.1 Jb.1 I L u λW σ s J N ca Y I L V O u=>qRi F I L V O u) h3
 .refine wpAny_isTrue_Compare1 ?_ h3;have e2:tr (ev cx (.cmp op a b)) σ=(ev cx a σ).bind λJ a0=>(ev cx b a0).bind λN a7=>((uS a7.h op J N).st a7).bind truRs:=by show((ev cx a σ).bind λJ a0=>(ev cx b a0).bind λN a7=>(uS a7.h op J N).st a7).bind _=_;rw[qPu];congr 1;funext J a0;rw[qPu]
  rw[e2]at u |-;refine zLj Ja.1 Jb.1 I L u (λe s' h=>h) λaH a7 aF J N ca Y e st U T=>?_;rw[e]at u |-;refine j9 (qRi F st.inv st.l U T (Rs.bind_ne u)) (λc s' ⟨v,σ',W',e',D,hv⟩=>?_) (λe s' h=>h.elim);rw[Rs.bind_ok e']at u |-;obtain⟨bb,O⟩:=qIg u;exact truthy_ok D.inv hv O λt=>⟨σ',W',zG O,(st.trans D).trans (Step.toks D.inv D.l t)⟩
theorem zO{G:Pv}{k:V->St->Rs β}{E:Pv}(D:OkE P fr A env t f)(I:Inv P fr W σ.h s)(L:Loc P env W σ s.heap)(F:(f σ).bind k≠.bad)(u:∀e s',NoE e s'->E e s')(hg:∀v c W' σ' s',f σ=.ok v σ'->Step P fr env W σ s W' σ' s'->VR W' σ'.n v c->G c s'):wpAny P.M A t G E s :=
 j9 (D W σ s I L (Rs.bind_ne F)) (λc s' ⟨v,σ',W',e,st,hv⟩=>hg v c W' σ' s' e st hv) (λe s' h=>u e s' h.elim)
theorem qLx{G:j7->Pv}{k:V->V->St->Rs β}{E:Pv}(ha:OkE P fr A env ta T)(hb:OkE P fr A env tb Y)(I:Inv P fr W σ.h s)(L:Loc P env W σ s.heap)(N:((T σ).bind λD a0=>(Y a0).bind λu a7=>k D u a7)≠.bad)(hE:∀e s',NoE e s'->E e s')(hg:∀J a7 F D u S O,((T σ).bind λD a0=>(Y a0).bind λu a7=>k D u a7)=k D u a7->Step P fr env W σ s J a7 F->VR J a7.n D S->VR J a7.n u O->G S O F):wpAny P.M A ta (λa Z=>wpAny P.M A tb (λb F=>G a b F) E Z) E s:=by
 refine j9 (ha W σ s I L (Rs.bind_ne N)) (λS Z ⟨D,a0,aB,aG,X,a3⟩=>?_) (λe s' h=>hE e s' h.elim);rw[(Rs.bind_ok aG)]at N hg;refine j9 (hb aB a0 Z X.inv X.l (Rs.bind_ne N)) (λO F ⟨u,a7,J,aN,U,a1⟩=>?_) (λe s' h=>hE e s' h.elim);exact hg J a7 F D u S O (Rs.bind_ok aN) (X.trans U) (a3.mono U.nx.wle U.nx.le) a1
set_option tactic.hygienic true in
theorem uQ(h:condR v σ t e≠.bad):(truV σ.h v=some true/\condR v σ t e=t σ)\/(truV σ.h v=some false/\condR v σ t e=e σ):=by
 unfold condR at h |-;revert h;split <;> intro h
 .rename_i q;exact .inl ⟨q,rfl⟩
 .rename_i q;exact .inr ⟨q,rfl⟩
 .exact d9 rfl h
theorem zFh(Y:Snd P cx c sc (.e t))(ia:Snd P cx a sc (.e x))(Z:Snd P cx b sc (.e y)):Snd P cx (.ite c a b) sc (.e (.IfExp t x y p)):=by
 intro fr A env F S;obtain Jc:=Y fr A env F S;obtain Ja:=ia fr A env F S;obtain Jb:=Z fr A env F S;have D:∀σ,ev cx (.ite c a b) σ=(ev cx c σ).bind λU a0=>condR U a0 (ev cx a) (ev cx b):=λz=>rfl;have O:∀σ,ev cx (.ite c a b) σ≠.bad->tr (ev cx c) σ≠.bad:=λσ h=>by
  rw[D]at h;cases T:ev cx c σ with
  |ok v a0 =>rw[T]at h;rw[yB T];rcases uQ (h:condR v a0 _ _≠.bad)with⟨q,_⟩|⟨q,_⟩ <;> rw[zG q] <;> intro q' <;> cases q'
  |bad=>rw[T]at h;exact d9 rfl h
 have N:∀{bb:Bool}{v:V}{σ':St},truV σ'.h v=some bb->condR v σ' (ev cx a) (ev cx b)=if bb then ev cx a σ' else ev cx b σ':=λ{bb v σ'} J=>by unfold condR;rw[J];cases bb <;> rfl
 refine⟨λW σ s I L u=>?_,λW σ s I L u=>?_⟩
 .refine wpAny_IfExp (qCd Jc.2 I L (O σ u) λbb v σ' W' s' e J st=>?_);rw[D,Rs.bind_ok e,N J]at u |-;cases bb with
  |true =>simp only[if_true]at u |-;exact j9 (Ja.1 W' σ' s' st.inv st.l u) (λc s' h=>h.after st) λe s' h=>h.after st
  |false =>simp only[nY,if_false]at u |-;exact j9 (Jb.1 W' σ' s' st.inv st.l u) (λc s' h=>h.after st) λe s' h=>h.after st
 .refine isTrue_IfExp (qCd Jc.2 I L (O σ (qPt u)) λbb v σ' W' s' e J st=>?_);rw[(by
   show(ev cx (.ite c a b) σ).bind truRs=_
   rw[D,Rs.bind_ok e,N J]:tr (ev cx (.ite c a b)) σ=(if bb then ev cx a σ' else ev cx b σ').bind truRs)]at u |-
  cases bb with
  |true =>simp only[if_true]at u |-;exact j9 (Ja.2 W' σ' s' st.inv st.l u) (λc s' h=>h.after st) λe s' h=>h.after st
  |false =>simp only[nY,if_false]at u |-;exact j9 (Jb.2 W' σ' s' st.inv st.l u) (λc s' h=>h.after st) λe s' h=>h.after st
theorem zDp(u:Snd P cx b sc (.ofAnd es))(F:Fm P cx.lvl fr A env)(S:ScOk sc env):es≠[]/\∀pos whole,OkE P fr A env (eval (.BoolOp .And es pos) env) (ev cx b)/\OkB P fr A env (isTrue (.BoolOp .And es pos) env whole) (tr (ev cx b)):=by
 match es,u with
 | [],u=>exact u fr A env F S
 | [e],u =>
  obtain J:=u fr A env F S;refine⟨by simp,λpos whole=>⟨J.1,λW σ s I L D=>isTrue_and (j9 (J.2 W σ s I L D) (λb s' h=>?_) λq q x=>x)⟩⟩;cases b with
  |true=>exact isTrue_and_nil h
  |false=>exact h
 |e::e'::r,u=>exact u fr A env F S
theorem zGt(u:Snd P cx b sc (.ofOr es))(F:Fm P cx.lvl fr A env)(S:ScOk sc env):es≠[]/\∀pos whole,OkE P fr A env (eval (.BoolOp .Or es pos) env) (ev cx b)/\OkB P fr A env (isTrue (.BoolOp .Or es pos) env whole) (tr (ev cx b)):=by
 match es,u with
 | [],u=>exact u fr A env F S
 | [e],u =>
  obtain J:=u fr A env F S;refine⟨by simp,λpos whole=>⟨J.1,λW σ s I L D=>isTrue_or (j9 (J.2 W σ s I L D) (λb s' h=>?_) λq q x=>x)⟩⟩;cases b with
  |true=>exact h
  |false=>exact isTrue_or_nil h
 |e::e'::r,u=>exact u fr A env F S
theorem qLm(Y:Snd P cx a sc (.e e))(V:Snd P cx b sc (.ofAnd es))(F:Fm P cx.lvl fr A env)(S:ScOk sc env)(pos:Pos)(whole:Sem j7):OkE P fr A env (eval (.BoolOp .And (e::es) pos) env) (ev cx (.and a b))/\OkB P fr A env (isTrue (.BoolOp .And (e::es) pos) env whole) (tr (ev cx (.and a b))):=by
 obtain Ja:=Y fr A env F S;obtain⟨U,Jb⟩:=zDp V F S;have D:∀σ,ev cx (.and a b) σ=(ev cx a σ).bind λN a0=>condR N a0 (ev cx b) (λa0=>.ok N a0):=λz=>rfl;obtain tne:∀σ,ev cx (.and a b) σ≠.bad->tr (ev cx a) σ≠.bad:=λσ h=>by
  rw[D]at h;cases T:ev cx a σ with
  |ok v a0 =>rw[T]at h;rw[yB T];rcases uQ (h:condR v a0 _ _≠.bad)with⟨q,_⟩|⟨q,_⟩ <;> rw[zG q] <;> intro Z <;> exact nomatch Z
  |bad=>rw[T]at h;exact d9 rfl h
 match es,U,Jb with
 | [],U,_=>exact d9 rfl U
 |aN::r,_,Jb =>
  refine⟨λW σ s I L u=>?_,λW σ s I L u=>?_⟩
  .refine BoolOp_and (zO (k:=λN a0=>condR N a0 (ev cx b) (λa0=>.ok N a0)) Ja.1 I L u (λe s' h=>h) λv c W' σ' s' e st hv=>?_);rw[D,Rs.bind_ok e]at u |-;rcases uQ u with⟨q,r⟩|⟨q,r⟩
   .rw[r]at u |-;refine truthy_ok st.inv hv q λt=>?_;rw[d3 rfl];have J:=st.trans (Step.toks st.inv st.l t);exact j9 ((Jb pos whole).1 W' σ' _ J.inv J.l u) (λc s' h=>h.after J) λe s' h=>h.after J
   .rw[r];refine truthy_ok st.inv hv q λt=>?_;rw[zX1];exact qJ rfl (st.trans (Step.toks st.inv st.l t)) hv
  .refine isTrue_and (qCd Ja.2 I L (tne σ (qPt u)) λbb v σ' W' s' e O st=>?_);cases bb with
   |true =>
    rw[(by
     show(ev cx (.and a b) σ).bind truRs=_
     rw[D,Rs.bind_ok e]
     unfold condR;rw[O];rfl:tr (ev cx (.and a b)) σ=tr (ev cx b) σ')]at u |-
    rw[d3 rfl];exact j9 ((Jb pos whole).2 W' σ' s' st.inv st.l u) (λc s' h=>h.after st) λe s' h=>h.after st
   |false =>rw[zX1];refine⟨σ',W',?_,st⟩;rw[yB (by rw[D,Rs.bind_ok e];unfold condR;rw[O]),zG O]
theorem qQi(Y:Snd P cx a sc (.e e))(V:Snd P cx b sc (.ofOr es))(F:Fm P cx.lvl fr A env)(S:ScOk sc env)(pos:Pos)(whole:Sem j7):OkE P fr A env (eval (.BoolOp .Or (e::es) pos) env) (ev cx (.or a b))/\OkB P fr A env (isTrue (.BoolOp .Or (e::es) pos) env whole) (tr (ev cx (.or a b))):=by
 obtain Ja:=Y fr A env F S;obtain⟨U,Jb⟩:=zGt V F S;have D:∀σ,ev cx (.or a b) σ=(ev cx a σ).bind λN a0=>condR N a0 (λa0=>.ok N a0) (ev cx b):=λz=>rfl;obtain tne:∀σ,ev cx (.or a b) σ≠.bad->tr (ev cx a) σ≠.bad:=λσ h=>by
  rw[D]at h;cases T:ev cx a σ with
  |ok v a0 =>rw[T]at h;rw[yB T];rcases uQ (h:condR v a0 _ _≠.bad)with⟨q,_⟩|⟨q,_⟩ <;> rw[zG q] <;> intro Z <;> exact nomatch Z
  |bad=>rw[T]at h;exact d9 rfl h
 match es,U,Jb with
 | [],U,_=>exact d9 rfl U
 |aN::r,_,Jb =>
  refine⟨λW σ s I L u=>?_,λW σ s I L u=>?_⟩
  .refine BoolOp_or (zO (k:=λN a0=>condR N a0 (λa0=>.ok N a0) (ev cx b)) Ja.1 I L u (λe s' h=>h) λv c W' σ' s' e st hv=>?_);rw[D,Rs.bind_ok e]at u |-;rcases uQ u with⟨q,r⟩|⟨q,r⟩
   .rw[r];refine truthy_ok st.inv hv q λt=>?_;rw[d3 rfl];exact qJ rfl (st.trans (Step.toks st.inv st.l t)) hv
   .rw[r]at u |-;refine truthy_ok st.inv hv q λt=>?_;rw[zX1];have J:=st.trans (Step.toks st.inv st.l t);exact j9 ((Jb pos whole).1 W' σ' _ J.inv J.l u) (λc s' h=>h.after J) λe s' h=>h.after J
  .refine isTrue_or (qCd Ja.2 I L (tne σ (qPt u)) λbb v σ' W' s' e O st=>?_);cases bb with
   |false =>
    rw[(by
     show(ev cx (.or a b) σ).bind truRs=_
     rw[D,Rs.bind_ok e]
     unfold condR;rw[O];rfl:tr (ev cx (.or a b)) σ=tr (ev cx b) σ')]at u |-
    rw[zX1];exact j9 ((Jb pos whole).2 W' σ' s' st.inv st.l u) (λc s' h=>h.after st) λe s' h=>h.after st
   |true =>rw[d3 rfl];refine⟨σ',W',?_,st⟩;rw[yB (by rw[D,Rs.bind_ok e];unfold condR;rw[O]),zG O]
theorem zFm(D:Snd P cx a sc (.e e))(u:Snd P cx b sc (.ofAnd es)):Snd P cx (.and a b) sc (.e (.BoolOp .And (e::es) p)):=λfr A env F S=>qLm D u F S p _
theorem qYh(D:Snd P cx a sc (.e e))(u:Snd P cx b sc (.ofAnd es)):Snd P cx (.and a b) sc (.an (e::es)):=λfr A env F S=>⟨by simp,λpos whole=>qLm D u F S pos whole⟩
theorem zLq(D:Snd P cx a sc (.e e))(u:Snd P cx b sc (.ofOr es)):Snd P cx (.or a b) sc (.e (.BoolOp .Or (e::es) p)):=λfr A env F S=>qQi D u F S p _
theorem zFd(D:Snd P cx a sc (.e e))(u:Snd P cx b sc (.ofOr es)):Snd P cx (.or a b) sc (.or (e::es)):=λfr A env F S=>⟨by simp,λpos whole=>qQi D u F S pos whole⟩
theorem zFj(T:Snd P cx a sc (.e v))(N:Snd P cx i sc (.e D))(h3:qBq D=false):Snd P cx (.idx a i) sc (.e (.Subscript v D p)):=λfr A env F S =>
 have J:OkE P fr A env (eval (.Subscript v D p) env) (ev cx (.idx a i)):=λW σ s I L u =>
  Subscript_ (qXe (T fr A env F S).1 (N fr A env F S).1 I L u λW σ s V Z ca Y I L O U u=>zHr I L O U u h3)
 ⟨J,qP J λq=>rfl⟩
theorem qQh(u:Snd P cx x sc (.ofO o))(F:Fm P cx.lvl fr A env)(S:ScOk sc env):OkE P fr A env (evalPart o env) (ev cx x):=by
 cases o with
 |none=>exact u fr A env F S
 |some e=>exact(u fr A env F S).1
theorem zFc{V:Pos}(ia:Snd P cx a sc (.e v))(il:Snd P cx J sc (.ofO l))(ih:Snd P cx hi sc (.ofO u)):Snd P cx (.slc a J hi) sc (.e (.Subscript v (.Slice l u Option.none V) p)):=by
 intro fr A env F S;obtain Ja:=ia fr A env F S;obtain Jl:=qQh il F S;obtain Jh:=qQh ih F S;obtain key:OkE P fr A env (eval (.Subscript v (.Slice l u Option.none V) p) env) (ev cx (.slc a J hi)):=λW σ s I L D=>by obtain hev:ev cx (.slc a J hi) σ=(ev cx a σ).bind λva a0=>(ev cx J a0).bind λU a7=>(ev cx hi a7).bind λZ aD=>(yF aD.h va U Z).st aD:=rfl;rw[hev]at D |-;refine Subscript_ (zO Ja.1 I L D (λe s' h=>h) λva ca aB a0 a9 aG N Y=>?_);rw[Rs.bind_ok aG]at D |-;refine wpAny_Slice (qLx Jl Jh N.inv N.l D (λe s' h=>h.after N) λaL aD aK U Z cl ch aM O a1 T=>?_);rw[aM]at D |-;obtain st:=N.trans O;refine g7 (j9 (zFo st.inv st.l (Y.mono O.nx.wle O.nx.le) a1 T D) (λc s' h=>h.after st) λe s' h=>h.after st)
 exact⟨key,qP key λq=>rfl⟩
theorem qYg(C:CxOk P cx)(T:Snd P cx o sc (.e e))(h2:qRv e):Snd P cx (.attr o f) sc (.e (.Attribute e f p)):=by
 intro fr A env F S;obtain key:OkE P fr A env (eval (.Attribute e f p) env) (ev cx (.attr o f)):=λW σ s I L u=>by
  show wpAny P.M A (do
   let J <- attributeBase e f env (eval e env)
   standAt p.atName
   let r <- holding [J] (getAttr J f true)
   letTemporaryGo e J r
   pure r) _ _ s
  rw[h2];refine d8 (zO (k:=λvo a0=>(cx.fld vo f a0.h).st a0) (T fr A env F S).1 I L u (λe s' h=>h) λvo O Y a0 V U D N=>?_);obtain hev:ev cx (.attr o f) σ=(cx.fld vo f a0.h).st a0:=Rs.bind_ok U;rw[hev]at u |-;refine d8 (eL (d8 (r9 (j9 (C.fld fr A env F Y a0 V D.inv D.l vo f O N u) (λc s' h=>?_) λe s' h=>h.after D))));exact d8 (wpAny_letTemporaryGo (g7 (h.after D)))
 exact⟨key,qP key λq=>rfl⟩
theorem qDz(h:∀x p,e≠.Starred x p):starEach (e::r) env=(false,eval e env)::starEach r env:=by cases e <;> first|rfl|exact d9 rfl (h _ _)
theorem qJn(h:qDi e=false):∀x p,e≠.Starred x p:=by rintro x p rfl;exact zT1 h
theorem zFf:Snd P cx .nil sc (.es []):=λfr A env F S pos=>⟨rfl,rfl,λW σ s I L q=>Calls.spliced_nil ⟨_,σ,W,rfl,Step.refl I L,.nil⟩⟩
theorem qYc(ia:Snd P cx a sc (.e e))(ib:Snd P cx b sc (.es r))(hs:qDi e=false):Snd P cx (.cons a b) sc (.es (e::r)):=by
 intro fr A env F S;obtain Ja:=ia fr A env F S;obtain Jb:=ib fr A env F S;intro pos;refine bg (Jb pos) λq1 Z Jb=>?_;rw[(by rw[(qDz (env:=env) (r:=r) (qJn hs))];rfl:backTo pos (starEach (e::r) env)=(false,eval e env)::backTo pos (starEach r env))];refine⟨by simpa using q1,by simpa using Z,λW σ s I L u=>?_⟩;have T:asArgs (ev cx (.cons a b)) σ=(ev cx a σ).bind λJ a0=>(asArgs (ev cx b) a0).bind λD a7=>.ok (J::D) a7:=by
  show((ev cx a σ).bind λJ a0=>(ev cx b a0).bind λD a7=>jT D a7 λxs a7=>Rs.ok (V.list (J::xs)) a7).bind _=_;cases ev cx a σ with
  |ok J a0 =>
   show((ev cx b a0).bind _).bind _=((ev cx b a0).bind _).bind _;cases ev cx b a0 with
   |ok D a7=>cases D <;> rfl
   |bad=>rfl
  |bad=>rfl
 rw[T]at u |-;refine Calls.spliced_cons (zO Ja.1 I L u (λe s' h=>h) λJ ca aB a0 a9 aG O Y=>?_);rw[Rs.bind_ok aG]at u |-;refine j9 (Jb aB a0 a9 O.inv O.l (Rs.bind_ne u)) (λcs aF ⟨D,a7,aH,aN,N,U⟩=>?_) (λe s' h=>h.elim);rw[Rs.bind_ok aN];exact⟨_,a7,aH,rfl,O.trans N,.cons (Y.mono N.nx.wle N.nx.le) U⟩
theorem qWd{f:St->Rs V}{xs:List V}{σ σ':St}(h:asArgs f σ=.ok xs σ'):f σ=.ok (.list xs) σ':=by
 unfold asArgs at h;cases u:f σ with
 |ok v a0 =>
  obtain h:=u▸h;have D:jT v a0 (λxs σ'=>Rs.ok xs σ')=.ok xs σ':=h;clear h;cases v <;> first|cases D|skip
  rfl
 |bad=>obtain h:=u▸h;cases h
theorem jY{k:List V->St->Rs β}{E:Pv}(J:OkL P fr A env t (asArgs f))(I:Inv P fr W σ.h s)(L:Loc P env W σ s.heap)(u:((f σ).bind λv σ'=>jT v σ' k)≠.bad)(F:∀e s',NoE e s'->E e s')(hg:∀xs cs W' σ' s',((f σ).bind λv σ'=>jT v σ' k)=k xs σ'->Step P fr env W σ s W' σ' s'->VRs W' σ'.n xs cs->G cs s'):wpAny P.M A t G E s:=j9 (J W σ s I L (by
  unfold asArgs
  cases D:f σ with
  |ok v a0 =>
   obtain u:=D▸u
   cases v <;> first|exact d9 rfl u|(intro q;cases q)
  |bad=>obtain u:=D▸u;exact d9 rfl u)) (λcs s' ⟨xs,σ',W',e,st,hv⟩=>hg xs cs W' σ' s' (by rw[Rs.bind_ok (qWd e)];rfl) st hv) (λe s' h=>F e s' h.elim)
set_option tactic.hygienic true in
theorem qBt(h:fits n r≠.bad):n<=j0/\fits n r=r:=by
 unfold fits at h |-;split at h
 .rename_i q;exact⟨q,d3 q⟩
 .exact d9 rfl h
theorem qYa(J:Snd P cx es sc (.es l)):Snd P cx (.list es) sc (.e (.List l p)):=by
 intro fr A env F S;obtain key:OkE P fr A env (eval (.List l p) env) (ev cx (.list es)):=λW σ s I L u=>by
  refine List_ (jY (k:=λxs a0=>fits xs.length (.ok (.list xs) a0)) ((J fr A env F S) p).2.2 I L u (λe s' h=>h) λxs cs W' σ' s' e st hv=>?_);have D:ev cx (.list es) σ=fits xs.length (.ok (.list xs) σ'):=e;rw[D]at u |-;obtain⟨N,r⟩:=qBt u;rw[r];obtain hz':cs.length<=j0:=by rw[hv.length];exact N
  exact fQ (Post.after st (jJ (items:=cs.toArray) st.inv st.l (hv) (hz') rfl rfl rfl)) (by show cs.toArray.size<=j0;rw[s8];exact hz')
 exact⟨key,qP key λq=>rfl⟩
theorem zFa(N:Snd P cx es sc (.es l)):Snd P cx (.tup es) sc (.e (.Tuple l J p)):=by
 intro fr A env F S;obtain key:OkE P fr A env (eval (.Tuple l J p) env) (ev cx (.tup es)):=λW σ s I L u=>by
  refine Tuple_ (jY (k:=λxs a0=>fits xs.length (.ok (.tup xs) a0)) ((N fr A env F S) p).2.2 I L u (λe s' h=>h) λxs cs W' σ' s' e st hv=>?_);have D:ev cx (.tup es) σ=fits xs.length (.ok (.tup xs) σ'):=e;rw[D]at u |-;obtain⟨O,r⟩:=qBt u;rw[r];obtain hz':cs.length<=j0:=by rw[hv.length];exact O
  exact fQ (Post.after st (qFe (items:=cs.toArray) st.inv st.l (hv) (hz') rfl rfl rfl)) (by show cs.toArray.size<=j0;rw[s8];exact hz')
 exact⟨key,qP key λq=>rfl⟩
theorem qYe(C:CxOk P cx)(jf:Snd P cx f sc (.e (.Name n J)))(ja:Snd P cx as sc (.es l)):Snd P cx (.call f as) sc (.e (.Call (.Name n J) l [] p)):=by
 intro fr A env F S;obtain Jf:=jf fr A env F S;obtain Ja:=(ja fr A env F S) p;obtain key:OkE P fr A env (eval (.Call (.Name n J) l [] p) env) (ev cx (.call f as)):=λW σ s I L u=>by obtain hev:ev cx (.call f as) σ=(ev cx f σ).bind λvf a0=>(ev cx as a0).bind λV a7=>jT V a7 λxs a7=>(cx.app vf xs a7.h).lift a7:=rfl;rw[hev]at u |-;refine d8 (zO Jf.1 I L u (λe s' h=>h) λvf Z aB a0 a9 aG D T=>?_);rw[Rs.bind_ok aG]at u |-;refine kJ Ja.1 (jY (k:=λxs a7=>(cx.app vf xs a7.h).lift a7) Ja.2.2 D.inv D.l u (λe s' h=>h.after D) λxs cs U a7 aF aN N O=>?_);rw[aN]at u |-;obtain st:=D.trans N;obtain⟨k1,Y⟩:=C.app fr A env F U a7 aF st.inv st.l vf xs Z cs (T.mono N.nx.wle N.nx.le) O u;exact⟨k1,j9 Y (λc s' h=>h.after st) λe s' h=>h.after st⟩
 exact⟨key,qP key λq=>rfl⟩
theorem qXz(C:CxOk P cx)(Z:Snd P cx o sc (.e e))(ja:Snd P cx as sc (.es l))(h3:qRv e)(O:(decide (l.length<30)&&D.endLine==p.line)):Snd P cx (.m o m as) sc (.e (.Call (.Attribute e m D) l [] p)):=by
 intro fr A env F S;simp only[i6,n8,w6]at O;obtain⟨h4,h5⟩:=O;obtain Jo:=Z fr A env F S;obtain Ja:=(ja fr A env F S) p;obtain key:OkE P fr A env (eval (.Call (.Attribute e m D) l [] p) env) (ev cx (.m o m as)):=λW σ s I L u=>by
  obtain hev:ev cx (.m o m as) σ=(ev cx o σ).bind λvo a0=>match cx.get vo m a0.h with
   |some (vf,first)=>(ev cx as a0).bind λvs a7=>jT vs a7 λxs a7=>(cx.app vf (first++xs) a7.h).lift a7
   |Option.none=>.bad:=rfl
  rw[hev]at u |-;obtain hform:methodCallForm (l.length+([]:List pU).length) (backTo p (starEach l env)) (backToKw p (keywordEach [] env))=true:=by
   unfold methodCallForm;obtain q:(backTo p (starEach l env)).all (λx=>!x.1)=true:=by rw[lB];intro x hx;have:=List.any_eq_false.mp Ja.1 x hx;simpa using this
   rw[q];exact e9 h4
  obtain hpos:methodCallPos true e env D p=pure p:=by unfold methodCallPos;simp[h5]
  show wpAny P.M A (do
   let ov <- attributeBase e m env (eval e env)
   standAt D.atName
   methodCall e m D p env ov (l.length+([]:List pU).length) (backTo p (starEach l env)) (backToKw p (keywordEach [] env))) _ _ s
  rw[h3];refine d8 (zO Jo.1 I L u (λe s' h=>h) λvo co aB a0 a9 aG T U=>d8 (eL ?_));rw[Rs.bind_ok aG]at u |-;cases J:cx.get vo m a0.h with
  |none=>rw[J]at u;exact d9 rfl u
  |some r0 =>obtain⟨vf,first⟩:=r0;obtain u:=J▸u;dsimp only at u |-;unfold methodCall;refine hform.symm▸?_;refine d8 (r9 (C.get fr A env F aB a0 a9 T.inv T.l vo m co vf first U J _ _ _ λr aF aH aA hf Y=>?_));refine d8 (cB hpos ?_);obtain st:=T.trans aA;refine kJ Ja.1 (jY (k:=λxs a7=>(cx.app vf (first++xs) a7.h).lift a7) Ja.2.2 st.inv st.l u (λe s' h=>h.after st) λxs cs aL aD aK aM N V=>?_);rw[aM]at u |-;obtain st':=st.trans N;obtain⟨k1,k2⟩:=C.app fr A env F aL aD aK st'.inv st'.l vf (first++xs) r.1 (r.2++cs) (hf.mono N.nx.wle N.nx.le) ((Y.mono N.nx.wle N.nx.le).append V) u;exact⟨k1,j9 k2 (λc s' h=>h.after st') λe s' h=>h.after st'⟩
 exact⟨key,qP key λz=>rfl⟩
end
structure Out(P:Par)(fr:Ln)(W:Wd)(n:Nat)(a:Nat):Prop where
 notB:P.B.get? a=none
 notFr:a∉fr
 notFz:W.fz a=none
 notOwn:∀k,k<n->W.ρ k≠a
section
variable{P:Par}{fr:Ln}{A:w4}{W W':Wd}{σ:St}{s s':g6}
theorem Out.new(I:Inv P fr W σ.h s){a:Nat}(h:s.heap.get? a=none):Out P fr W σ.n a where
 notB:=by
  cases q:P.B.get? a with
  |none=>rfl
  |some o=>have:=I.keep _ _ q;rw[h]at this;cases this
 notFr:=λhm=>by obtain⟨o,e,_⟩:=(I.frB _ hm).2;rw[h]at e;cases e
 notFz:=by
  cases q:W.fz a with
  |none=>rfl
  |some o=>have:=(I.frz _ _ q).1;rw[h]at this;cases this
 notOwn:=λk hk q=>by obtain⟨o,e⟩:=I.live k hk;replace e:=h▸q▸e;cases e
theorem Out.step(x:Out P fr W n a)(e:h.get? a=some o)(nx:Nx F L W n h W' D I):Out P fr W' D a where
 notB:=x.notB
 notFr:=x.notFr
 notFz:=by
  cases q:W'.fz a with
  |none=>rfl
  |some c =>
   rcases nx.fzn a c q with r|r
   .rw[x.notFz]at r;exact nomatch r
   .rw[e]at r;exact nomatch r
 notOwn:=λk hk q=>by
  by_cases u:k<n
  .rw[nx.wle.ρ k u]at q;exact x.notOwn k u q
  .have:=nx.new k (Nat.not_lt.mp u) hk;rw[q,e]at this;exact nomatch this
theorem Inv.outside(I:Inv P fr W σ.h s)(x:Out P fr W σ.n a)(hk:∀b o,b≠a->s.heap.get? b=some o->s'.heap.get? b=some o)(hg:s'.gens=s.gens)(u:s'.os=s.os):Inv P fr W σ.h s' where
 keep:=λb o e=>hk b o (by rintro rfl;replace e:=x.notB.symm.trans e;exact nomatch e) (I.keep b o e)
 old:=I.old
 live:=λk h=>bf (I.live k h) λo e=> ⟨o,hk _ _ (x.notOwn k h) e⟩
 nofr:=I.nofr
 nofz:=I.nofz
 inj:=I.inj
 o:=λk o e=>let⟨p,c,b,d⟩:=I.o k o e;⟨p,c,hk _ _ (x.notOwn k p) b,d⟩
 frz:=λb c e=>⟨hk _ _ (by rintro rfl;replace e:=x.notFz.symm.trans e;exact nomatch e) (I.frz b c e).1,(I.frz b c e).2⟩
 frB:=λb h=>⟨(I.frB b h).1,ae ((I.frB b h).2) λo e d=> ⟨o,hk _ _ (by rintro rfl;exact x.notFr h) e,d⟩⟩
 gens:=hg.trans I.gens
 os:=u.trans I.os
theorem Step.aside(st:Step P fr env W σ s W' σ' s')(hL:env.locals∈fr){a:Nat}(D:s.heap.get? a=none)(x:Out P fr W' σ'.n a)(hk:∀b o,b≠a->s'.heap.get? b=some o->s''.heap.get? b=some o)(hg:s''.gens=s'.gens)(O:s''.os=s'.os):Step P fr env W σ s W' σ' s'':=by
 refine⟨⟨st.nx.wle,st.nx.le,λb o e=>bf (st.nx.live b o e) λu F=>⟨u,hk b u (by rintro rfl;rw[D]at e;exact nomatch e) F⟩,st.nx.new,st.nx.fzn,λb o e h1 T h2=>hk b o (by rintro rfl;rw[D]at e;exact nomatch e) (st.nx.ext b o e h1 T h2),λb o h1 h2 e=>ae (st.nx.fext b o h1 h2 e) λu F L=>⟨u,hk b u (by rintro rfl;rw[D]at e;exact nomatch e) F,L⟩⟩,st.inv.outside x hk hg O,?_⟩
 .refine ae st.l.l λm J I=>dp J λN es S e1 r=>?_;exact⟨st.l.kind,st.l.g,st.l.bns,⟨m,⟨N,es,S,hk _ _ (by rintro rfl;exact x.notFr hL) e1,r⟩,I⟩,st.l.e⟩
theorem Inv.weaken(I:Inv P (C::fr) W σ.h s):Inv P fr W σ.h s :=
 ⟨I.keep,I.old,I.live,λk h q=>I.nofr k h (.tail _ q),I.nofz,I.inj,I.o,λa c e=>⟨(I.frz a c e).1,λq=>(I.frz a c e).2 (.tail _ q)⟩,λa h=>I.frB a (.tail _ h),I.gens,I.os⟩
theorem Inv.under(I:Inv P fr W σ.h s){o:Obj}(x:Out P fr W σ.n C)(e:s.heap.get? C=some o)(hd:∀u,o.data≠.fields u):Inv P (C::fr) W σ.h s where
 keep:=I.keep
 old:=I.old
 live:=I.live
 nofr:=λk h q=>by
  rcases List.mem_cons.mp q with q|q
  .exact x.notOwn k h q
  .exact I.nofr k h q
 nofz:=I.nofz
 inj:=I.inj
 o:=I.o
 frz:=λa c h=>⟨(I.frz a c h).1,λq=>by
  rcases List.mem_cons.mp q with q|q
  .subst q;obtain h:=x.notFz.symm.trans h;exact nomatch h
  .exact(I.frz a c h).2 q⟩
 frB:=λa h=>by
  rcases List.mem_cons.mp h with q|q
  .subst q;exact⟨x.notB,o,e,hd⟩
  .exact I.frB a q
 gens:=I.gens
 os:=I.os
theorem Step.inner{C:Nat}{cenv:Env}(st:Step P fr env W σ s W' σ' s')(hL:env.locals∈fr)(N:s.heap.get? C=none)(O:cenv.locals=C)(Y:C≠env.locals)(he:a0.h=σ'.h)(r:Step P (C::fr) cenv W' a0 s' W'' a7 s''):Step P fr env W σ s W'' { σ' with h:=a7.h } s'':=by
 have D:a0.n=σ'.n:=g0 Hp.n he;have L:σ'.n<=a7.n:=D▸r.nx.le;have J:Wle σ'.n W' W'':=D▸r.nx.wle;refine⟨⟨st.nx.wle.trans st.nx.le J,b7 st.nx.le L,λb o e=>?_,λk h1 h2=>?_,λa c e=>?_,λb o e h1 V h2=>?_,λb o h1 h2 e=>?_⟩,Inv.weaken (σ:=a7) r.inv,?_⟩
 .exact bf (st.nx.live b o e) λF u=>r.nx.live b F u
 .by_cases hk:k<σ'.n
  .rw[J.ρ k hk];exact st.nx.new k h1 hk
  .cases q:s.heap.get? (W''.ρ k)with
   |none=>rfl
   |some o=>refine bf (st.nx.live _ _ q) λF u=>?_;replace u:=(r.nx.new k (by rw[D];exact Nat.not_lt.mp hk) h2).symm.trans u;exact nomatch u
 .rcases r.nx.fzn a c e with q|q
  .exact st.nx.fzn a c q
  .right;cases hq:s.heap.get? a with
   |none=>rfl
   |some o=>refine bf (st.nx.live _ _ hq) λF u=>?_;replace u:=q.symm.trans u;exact nomatch u
 .have e1:=st.nx.ext b o e h1 V h2;refine r.nx.ext b o e1 (by rw[O];rintro rfl;obtain e:=N.symm.trans e;exact nomatch e) (λhm=>by
   rcases List.mem_cons.mp hm with q|q
   .subst q;obtain e:=N.symm.trans e;exact nomatch e
   .exact V q) λk hk q=>?_
  rw[D]at hk;by_cases I:k<σ.n
  .obtain q:=(st.nx.wle.ρ k I).symm.trans q;exact h2 k I q
  .have:=st.nx.new k (Nat.not_lt.mp I) hk;rw[q,e]at this;exact nomatch this
 .refine ae (st.nx.fext b o h1 h2 e) λF u d'=>?_;exact ae (r.nx.fext b F (.tail _ h1) (by rw[O];rintro rfl;replace e:=N.symm.trans e;exact nomatch e) u) λX S T=>⟨X,S,T.trans d'⟩
 .refine ae st.l.l λm q1 q2=>cm q1 λoL es ep e1 dd Z=>?_;exact ae (r.nx.fext _ _ (.tail _ hL) (by rw[O];exact fR Y) e1) λU e2 d2=>⟨st.l.kind,st.l.g,st.l.bns,⟨m,⟨U,es,ep,e2,d2.trans dd,Z⟩,λx v h=>let⟨p,c,q,rv⟩:=q2 x v h;⟨p,c,q,rv.mono J L⟩⟩,
   λx k h=>bo (st.l.e x k h) λp q=> ⟨g9 p L,λhk=>by rw[J.ρ k p];exact q hk⟩⟩
theorem Step.freezeLate(st:Step P fr env W σ s W' σ' s'){a:Nat}(I:s.heap.get? a=none)(e:s'.heap.get? a=some o)(x:Out P fr W' σ'.n a):Step P fr env W σ s (W'.freeze a o) σ' s':=by
 obtain fe:∀b,(W'.freeze a o).fz b=if b=a then some o else W'.fz b:=λz=>rfl;have F:∀b c,W'.fz b=some c->(W'.freeze a o).fz b=some c:=λb c h=>by rw[fe,b6];exact h;rintro rfl;obtain h:=x.notFz.symm.trans h;exact nomatch h
 have D:Wle σ'.n W' (W'.freeze a o):=⟨λz z=>rfl,F⟩
 have J:=st.inv;refine⟨⟨st.nx.wle.trans st.nx.le D,st.nx.le,st.nx.live,st.nx.new,λb c h=>?_,st.nx.ext,st.nx.fext⟩,⟨J.keep,J.old,J.live,J.nofr,λk h=>?_,J.inj,λk L h=>?_,λb c h=>?_,J.frB,J.gens,J.os⟩,?_⟩
 .rw[fe]at h;by_cases u:b=a
  .subst u;exact .inr I
  .obtain h:=ao u h;exact st.nx.fzn b c h
 .exact bc (x.notOwn k h) (J.nofz k h)
 .obtain⟨p,c,b,d⟩:=J.o k L h;exact⟨p,c,b,d.mono D (i5 _)⟩
 .rw[fe]at h;by_cases u:b=a
  .subst u;replace h:=aw rfl h;subst h;exact⟨e,x.notFr⟩
  .obtain h:=ao u h;exact J.frz b c h
 .obtain J':=st.l;exact⟨J'.kind,J'.g,J'.bns,let⟨m,a,b⟩:=J'.l;⟨m,a,λx v h=>let⟨p,c,q,r⟩:=b x v h;⟨p,c,q,r.mono D (i5 _)⟩⟩,J'.e⟩
inductive ItAt(W:Wd)(n:Nat)(h:nZ)(I:Nat):V->Nat->Prop
 |list{v:V}{a:Nat}{i:Nat}:VR W n v (.ref a)->(∀H,itsV H v=asList H v)->h.IsListIter I a i->ItAt W n h I v i
 |tup{xs:List V}{a:Nat}{i:Nat}:VR W n (.tup xs) (.ref a)->h.IsTupleIter I a i->ItAt W n h I (.tup xs) i
 |rng{a b c:Int}{i:Nat}:IsRangeIter h I (a+(i:Int)*c) (j5 a b c-(i:Int)) c->ItAt W n h I (.rng a b c) i
theorem ItAt.mono{n D:Nat}{h F:nZ}{I:Nat}{v:V}{i:Nat}(x:ItAt W n h I v i)(u:Wle n W W')(J:n<=D)(hk:∀o,h.get? I=some o->F.get? I=some o):ItAt W' D F I v i:=by
 cases x with
 |list a b c=>exact .list (a.mono u J) b (ae c λo e r=> ⟨o,hk _ e,r⟩)
 |tup a c=>exact .tup (a.mono u J) (ae c λo e r=> ⟨o,hk _ e,r⟩)
 |rng a=>exact .rng (hk _ a)
theorem ItAt.there(x:ItAt W n h I v i):∃o,h.get? I=some o:=by
 cases x with
 |list a b c=>exact ae c λo e q=>⟨o,e⟩
 |tup _ c=>exact ae c λo e q=>⟨o,e⟩
 |rng a=>exact⟨_,a⟩
theorem qDh{E:Pv}(I:Inv P fr W σ.h s){v:V}{c:j7}{xs:List V}(hv:VR W σ.n v c)(e:itsV σ.h v=some xs){Q:Pv}(J:∀N,ItAt W σ.n (s.heap.push N) s.heap.objs.size v 0->Q (.ref s.heap.objs.size) { s with heap:=s.heap.push N }):wpAny P.M A (pyIter c) Q E s:=by
 obtain D:asList σ.h v=some xs->(∀H,itsV H v=asList H v)->wpAny P.M A (pyIter c) Q E s:=λh1 h2=>by refine bu (zY I hv h1) λa items u S q q=>?_;subst u;exact wpAny_pyIter_list S (J _ (.list hv h2 ⟨_,eH _ rfl,rfl,rfl⟩))
 refine bC λL=>?_;replace D:=λa b=>L (D a b);have F:=hv.dat;clear hv;cases v with
 |rng a b c =>refine pg F λq q q q u O hs=>?_;subst u;refine L (wpAny_pyIter_range (I.frz _ _ O).1 hs (J _ (.rng ?_)));simp only[(by simp:a+((0:Nat):Int)*c=a),(by simp:j5 a b c-((0:Nat):Int)=j5 a b c)];exact eH _ rfl
 |tup =>refine dc F λq q q q u h1 h2 h3 h4 h5=>?_;subst u;exact L (wpAny_pyIter_tuple ⟨_,(I.frz _ _ h1).1,h2,_,h3⟩ (J _ (.tup (.tup h1 h2 h3 h4 h5) ⟨_,eH _ rfl,rfl,rfl⟩)))
 |list=>exact D e λq=>rfl
 |ref=>exact D e λq=>rfl
 |_=>exact zN1 e
theorem qNt{E:Pv}(x:ItAt W n s.heap Ia v i){Q:Pv}(u:Q (.ref Ia) s):wpAny P.M A (pyIter (.ref Ia)) Q E s:=by
 cases x with
 |list a b c=>exact wpAny_pyIter_listiter c u
 |tup _ c=>exact wpAny_pyIter_tupleiter c u
 |rng a=>exact wpAny_pyIter_rangeiter a u
theorem qFj{E:Pv}(I:Inv P fr W σ.h s)(hi:ItAt W σ.n s.heap Ia v i)(e:itsV σ.h v=some xs)(F:xs[i]?=some x) 
  (N:∀c u t,VR W σ.n x c->ItAt W σ.n u Ia v (i+1)->lP Ia s.heap u->Q (some c) { s with heap:=u,toks:=t }):wpAny P.M A (pyNext (.ref Ia)) Q E s:=by
 cases hi with
 |list a b c =>
  refine bu (zY I a ((b _).symm.trans e)) λl items q T S X=>?_;injection q with q;subst q
  exact ae (S.get F) λcx J L=>wpAny_pyNext_list_item c T (by rw[<- aV];exact J) λu D hs=>N cx u s.toks L (.list a b D) hs
 |tup a c =>
  subst e;refine cn (qLs I a) λt o items U q h1 h2 h3 h4=>?_;injection q with q;subst q
  exact ae (h4.get F) λcx J L=>wpAny_pyNext_tuple_item c ⟨o,h1,h2,U,h3⟩ (by rw[<- aV];exact J) λu D hs=>N cx u s.toks L (.tup a D) hs
 | @rng a b c _ r =>
  subst e;replace F:=List.getElem?_map.symm.trans F;refine qa F λj h1 O=>?_;subst O;have h2:i<(j5 a b c).toNat:=by have:=(List.getElem?_eq_some_iff.mp h1).1;simpa using this
  obtain h3:j=i:=by replace h1:=(List.getElem?_range h2).symm.trans h1;subst h1;rfl
  subst h3;refine wpAny_pyNext_range_item r (by simp_all) λu D hs=>N _ u _ (.int _ _) (.rng ?_) hs;rw[(by push_cast;rw[Int.add_mul,Int.one_mul,Int.add_assoc]:a+((j+1:Nat):Int)*c=a+(j:Int)*c+c),(by push_cast;exact gN (Int.sub_sub _ (↑_) 1):j5 a b c-((j+1:Nat):Int)=j5 a b c-(j:Int)-1)];exact D
theorem qJx{E:Pv}(F:A.handled=none)(I:Inv P fr W σ.h s)(hi:ItAt W σ.n s.heap Ia v i)(e:itsV σ.h v=some xs)(D:xs[i]?=none) 
  (u:∀J,Heap.ExtBut Ia s.heap J->Q none { s with heap:=J }):wpAny P.M A (pyNext (.ref Ia)) Q E s:=by
 cases hi with
 |list a b c =>
  refine bu (zY I a ((b _).symm.trans e)) λl items q N L S=>?_;injection q with q;subst q
  refine wpAny_pyNext_list_end F c N ?_ u;rw[nB];have:=L.length;rw[h9]at this;have:=List.getElem?_eq_none_iff.mp D;lia
 |tup a c =>
  subst e;refine cn (qLs I a) λt o items O q h1 h2 h3 h4=>?_;injection q with q;subst q
  refine wpAny_pyNext_tuple_end F c ⟨o,h1,h2,O,h3⟩ ?_ u;rw[nB];have:=h4.length;rw[h9]at this;have:=List.getElem?_eq_none_iff.mp D;lia
 | @rng a b c _ r =>subst e;refine wpAny_pyNext_range_end F r ?_ u;have:=List.getElem?_eq_none_iff.mp D;simp only[m8,List.length_range]at this;exact ip this
end
noncomputable def clOf(env:Env):List (Str×dE)->List (Str×Addr)->List (Str×Addr)
 | [],cs=>cs
 |(n,k)::r,cs=>clOf env r (if k == .free then(n,(env.cells.lookup n).getD 0)::cs else cs)
theorem qOo:clOf env ((n,k)::r) cs=clOf env r (if k == .free then(n,(env.cells.lookup n).getD 0)::cs else cs):=rfl
theorem qOj(h:∀n,(n,NameKind.free)∈scope.names->∃a,env.cells.lookup n=some a):closureFor scope env=pure (clOf env scope.names []):=by
 obtain key:∀(l:List (Str×dE))(cs:List (Str×Addr)),(∀n,(n,NameKind.free)∈l->∃a,env.cells.lookup n=some a) ->
   (forIn l cs λ(x:Str×dE)(cs:List (Str×Addr))=>(if x.2==NameKind.free then do let a <- cellOf env x.1;pure (fU ((x.1,a)::cs))else pure (fU cs):Sem (ForInStep (List (Str×Addr)))))=pure (clOf env l cs):=by
  intro l;induction l with
  |nil=>intro cs _;rfl
  |cons p r F =>
   intro cs u;obtain⟨n,k⟩:=p;simp only[mW];by_cases hk:(k==NameKind.free)=true
   .obtain hk':k=.free:=j6 hk;subst hk';obtain⟨a,D⟩:=u n (.head _);simp only[qOo];simp only[hk,if_true];simp only[(by unfold cellOf;simp only[D]:cellOf env n=pure a),pure_bind,pure_bind];simp only[D];exact F _ λm hm=>u m (.tail _ hm)
   .simp only[qOo];simp only[hk];exact F _ λm hm=>u m (.tail _ hm)
 refine(g0 (· >>=_) (Eq.trans ?_ (key scope.names [] h))).trans ?_
 .congr 1
 .rfl
theorem qBa(F:env.cells.lookup x=some a):∀(l:List (Str×dE))(cs:List (Str×Addr)),((x,NameKind.free)∈l\/cs.lookup x=some a)->(cs.lookup x=none\/cs.lookup x=some a)->(clOf env l cs).lookup x=some a:=by
 intro I;induction I with
 |nil=>exactλcs h z=>h.elim (λq=>nomatch q) id
 |cons zp r u =>
  obtain⟨n,k⟩:=zp;intro cs h h2;rw[qOo];by_cases hk:(k==NameKind.free)=true
  .rw[d3 hk];obtain hk':k=.free:=by simpa using hk
   subst hk';by_cases D:x=n
   .subst D;refine u _ (.inr ?_) (.inr ?_) <;> simp[k8,F]
   .obtain hb:(x==n)=false:=k9 D;refine u _ ?_ ?_
    .rcases h with h|h
     .left;rcases List.mem_cons.mp h with q|q
      .injection q with q;subst q;exact d9 rfl D
      .exact q
     .right;simp only[k8,hb];exact h
    .simp only[k8,hb];exact h2
  .rw[b6 hk];refine u cs ?_ h2;rcases h with h|h
   .left;rcases List.mem_cons.mp h with q|q
    .injection q with q h_;subst q h_;exact d9 rfl hk
    .exact q
   .exact .inr h
theorem wD(env:Env)(x:Str):∀names:List (Str×dE),(names.map λ(n,k)=>if(k==NameKind.free&&env.scope.kind == .function&&env.kindOf n==some .cell)then(n,NameKind.cell)else(n,k)).lookup x
  =(names.lookup x).map λk=>if(k==NameKind.free&&env.scope.kind == .function&&env.kindOf x==some .cell)then NameKind.cell else k:=by
 intro L;induction L with
 |nil=>exact  rfl
 |cons zp r J =>
  obtain⟨n,k⟩:=zp;show k8 x ((if(k==NameKind.free&&env.scope.kind == .function&&env.kindOf n==some .cell)=true then(n,NameKind.cell)else(n,k))::_)=_;by_cases u:(x==n)=true
  .have D:x=n:=by simpa using u
   subst D;by_cases hc:(k==NameKind.free&&env.scope.kind == .function&&env.kindOf x==some .cell)=true
   .rw[d3 hc];simp only[k8,u,iV,d3 hc]
   .rw[b6 hc];simp only[k8,u,iV,b6 hc]
  .have I:(x==n)=false:=(gF _).mp u;have F:=J;by_cases hc:(k==NameKind.free&&env.scope.kind == .function&&env.kindOf n==some .cell)=true
   .rw[d3 hc];simp only[k8,I];exact F
   .rw[b6 hc];simp only[k8,I];exact F
theorem zK{β:Type}{x:Str}{b:β}:∀{l:List (Str×β)},l.lookup x=some b->(x,b)∈l
 |(y,c)::r,h=>by
  by_cases u:(x==y)=true
  .obtain hx':x=y:=by simpa using u
   subst hx'
   simp[k8]at h;subst h;exact .head _
  .simp only[k8,(Bool.eq_false_iff.mpr u)]at h
   exact .tail _ (zK h)
theorem qHe(h:xC e=false)(x:j7):foldedSetIterable e env x=pure x:=by cases e <;> first|rfl|exact zT1 h
structure ScopeOk(sc cs:Scope):Prop where
 kind:cs.kind=.function
 nocell:∀p∈cs.names,p.2≠.cell
 locs:∀p∈cs.names,p.2=.local->cs.names.lookup p.1=some .local
 free:∀n,(n,NameKind.free)∈cs.names->sc.names.lookup n=some .cell\/sc.names.lookup n=some .free
theorem kX(h:xP x sc cs):ScopeOk sc cs/\cs.names.lookup x=some .local:=by
 unfold xP at h;simp only[i6,w6,lB]at h;obtain⟨⟨h1,h2⟩,h3⟩:=h;refine⟨⟨h1,λp hp q=>?_,λp hp q=>?_,λn u=>?_⟩,h2⟩
 .have:=(h3 p hp).1.1;rw[q]at this;exact zF1 this
 .have:=(h3 p hp).1.2;rw[q]at this;exact beq_iff_eq.mp this
 .have:=(h3 _ u).2;simpa using this
section
variable{P:Par}{fr:Ln}{A:w4}{env:Env}{W:Wd}{σ:St}{s:g6}{cx:Cx}{W':Wd}{σ':St}{s':g6}
theorem qTn(S:ScOk sc env)(O:ScopeOk sc cs)(C:Nat):ScOk cs (compEnvC cs (clOf env cs.names []) C env):=by
 obtain hk:∀y,(compEnvC cs (clOf env cs.names []) C env).kindOf y=(cs.names.lookup y).map λk=>if(k==NameKind.free&&env.scope.kind == .function&&env.kindOf y==some .cell)then NameKind.cell else k:=λy=>wD env y cs.names;refine⟨λy h=>?_,λy h=>?_,λy h=>?_,λy h=>d9 rfl (O.nocell _ (zK h)),λy h=>?_⟩
 .rw[hk,h];rfl
 .rw[hk,h];rfl
 .rw[hk];rcases h with h|h
  .exact d9 rfl (O.nocell _ (zK h))
  .rw[h];simp only[iV];split <;> simp
 .rw[hk]at h;have hm:=zK (by
   cases u:cs.names.lookup y with
   |none=>rw[u]at h;simp at h
   |some k =>
    rw[u]at h
    simp only[iV,rI]at h
    by_cases hc:(k==NameKind.free&&env.scope.kind == .function&&env.kindOf y==some .cell)=true
    .have:k=.free:=by simp only[i6,w6]at hc;exact hc.1.1
     rw[this]
    .rw[b6 hc]at h
     rcases h with h|h
     .exact d9 h (O.nocell _ (zK u))
     .rw[h])
  obtain⟨a,D⟩:=S.has y (S.e y (O.free y hm));exact⟨a,qBa D _ _ (.inl hm) (.inl rfl)⟩
def qRw(W:Wd)(n:Nat)(cs:Scope)(l:List (Str×V))(m:Str->Option j7):Prop:=∀y u,l.lookup y=some u->cs.names.lookup y=some .local/\∃c,m y=some c/\VR W n u c
theorem zAu(S:ScOk sc env)(O:ScopeOk sc cs){C:Nat}(L:Loc P env W σ h)(J:h.Ns C m)(hm:qRw W σ.n cs l m):Loc P (compEnvC cs (clOf env cs.names []) C env) W { σ with l:=l } h:=by
 obtain hk:∀y,(compEnvC cs (clOf env cs.names []) C env).kindOf y=(cs.names.lookup y).map λk=>if(k==NameKind.free&&env.scope.kind == .function&&env.kindOf y==some .cell)then NameKind.cell else k:=λy=>wD env y cs.names;refine⟨O.kind,L.g,L.bns,⟨m,J,λy u F=>?_⟩,λy k F=>?_⟩
 .obtain⟨h1,h2⟩:=hm y u F;exact⟨by rw[hk,h1];rfl,h2⟩
 .obtain⟨p,q⟩:=L.e y k F;refine⟨p,λhc=>?_⟩;obtain hm:=zK (by
   rw[hk]at hc
   cases D:cs.names.lookup y with
   |none=>rw[D]at hc;simp at hc
   |some k =>
    rw[D]at hc
    simp only[iV,rI]at hc
    by_cases I:(k==NameKind.free&&env.scope.kind == .function&&env.kindOf y==some .cell)=true
    .have:k=.free:=by simp only[i6,w6]at I;exact I.1.1
     rw[this]
    .rw[b6 I]at hc
     rcases hc with hc|hc
     .exact d9 hc (O.nocell _ (zK D))
     .rw[hc])
  exact qBa (q (S.e y (O.free y hm))) _ _ (.inl hm) (.inl rfl)
theorem uZ(h:turns v all f l σ=.ok r σ'):itsV σ.h v=some all:=by
 by_cases q:itsV σ.h v=some all
 .exact q
 .cases l with
  |nil=>rw[qBl,b6 q]at h;exact nomatch h
  |cons=>rw[qBm,b6 q]at h;exact nomatch h
theorem qRy(h:turns v all f [] σ=.ok r σ'):r=[]/\σ'=σ:=by obtain q:=uZ h;rw[qBl,d3 q]at h;injection h with h h_;subst h h_;exact⟨rfl,rfl⟩
theorem qLr(h:turns v all f (x::l) σ=.ok r σ'):∃o a0 u,f x σ=.ok o a0/\turns v all f l a0=.ok u σ'/\r=o.toList++u:=by
 have q:=uZ h;replace h:=(d3 q)▸qBm▸h;cases F:f x σ with
 |ok o a0 =>
  replace h:=F▸h;dsimp only at h;cases D:turns v all f l a0 with
  |ok u a7=>rw[D]at h;injection h with h h_;subst h h_;exact⟨o,a0,u,rfl,D,rfl⟩
  |bad=>replace h:=D▸h;cases h
 |bad=>replace h:=F▸h;cases h
theorem qWv:∀{l:List V}{σ:St},turns v all f l σ≠.bad->∃r σ',turns v all f l σ=.ok r σ':=by
 intro F;induction F with
 |nil =>
  intro σ h;rw[qBl]at h |-;by_cases q:itsV σ.h v=some all
  .exact⟨[],σ,d3 q⟩
  .exact d9 (b6 q) h
 |cons x l D =>
  intro σ h;rw[qBm]at h |-;by_cases q:itsV σ.h v=some all
  .rw[d3 q]at h |-;cases u:f x σ with
   |ok o a0 =>rw[u]at h;dsimp only at h |-;exact cg (D (by intro q;rw[q]at h;exact d9 rfl h)) λr σ' e=>⟨_,σ',by rw[e];rfl⟩
   |bad=>rw[u]at h;exact d9 rfl h
  .exact d9 (b6 q) h
theorem qXh{cond:X}(u:Snd P cx cond cs (.ofCond ifs))(F:Fm P cx.lvl frC A cenv)(S:ScOk cs cenv)(I:Inv P frC W σ.h s)(L:Loc P cenv W σ s.heap)(e:ev cx cond σ=.ok b σ')(N:truV σ'.h b=some bb){E:Pv}(J:∀W' s',Step P frC cenv W σ s W' σ' s'->Q bb s'):wpAny P.M A (forIn ifs true λc r=>if r then do let ok <- isTrue c cenv (eval c cenv);pure (fU ok)else pure (fU r)) Q E s:=by
 match ifs,u with
 | [],u =>
  obtain⟨_,q⟩:=u frC A cenv F S;rw[q]at e;injection e with e h_;subst e h_
  subst N;exact g7 (J W s (Step.refl I L))
 | [c],u =>
  have e2:tr (ev cx cond) σ=.ok bb σ':=by rw[yB e,zG N]
  rw[mW];refine d8 (d8 (j9 (((u frC A cenv F S).2) W σ s I L (by rw[e2];intro q;cases q)) (λT s' ⟨O,W',D,st⟩=>?_) (λx s' h=>h.elim)));rw[e2]at D;injection D with D h_;subst D h_
  exact g7 (g7 (J W' s' st))
 |_::_::_,u=>exact d9 (u frC A cenv F S).1 (by simp)
theorem qAb{E:Pv}{D:Nat}{Q:Pv}(u:s.heap.get? D=some (listOf ys n))(J:∀F I,F.get? D=some (listOf (ys.push x) I)->lP D s.heap F->Q .none { s with heap:=F })(L:ys.size<=j0):wpAny P.M A (call (.builtin "list.append") [.ref D,x]) Q E s:=by
 obtain hL:s.heap.IsList D ys:=⟨_,u,rfl,_,rfl⟩
 refine iN slot_list_append hL.typeIs entry_list_append ?_ (args_list_append _ _);show wpAny _ _ (updateSeq D (·.push x) >>=λq=>ret .none) _ _ s;refine d8 (wpAny_updateSeq u rfl (g7 ⟨.none,rfl,J _ _ (pH _ u rfl) (iS ..)⟩))
structure TgOk(P:Par)(A:w4)(cs:Scope)(B:V->Option (List (Str×V)))(tg:Expr):Prop where
 go:∀{W:Wd}{n Ia i:Nat}{s:g6}{v y:V}{c:j7}{l:List (Str×V)},ItAt W n s.heap Ia v i->B y=some l->VR W n y c->∀{Q:Unit->g6->Prop}{E:Pv},Q () s->wpAny P.M A (letOwnedTupleGo tg (.ref Ia) c) Q E s
 put:∀{fr:Ln}{W:Wd}{H:Hp}{s:g6},Inv P fr W H s->A.handled=none->∀{cenv:Env}{C:Nat}{m:Str->Option j7},cenv.locals=C ->
  (∀y,cs.names.lookup y=some .local->cenv.kindOf y=some .local)->cenv.scope.kind=.function->s.heap.Ns C m->∀{v:V}{c:j7}{l:List (Str×V)},B v=some l->VR W H.n v c->∀{Q:Unit->g6->Prop}{E:Pv},
  (∀h' t' m',h'.Ns C m'->(∀b o,b≠C->s.heap.get? b=some o->h'.get? b=some o)->qRw W H.n cs l m'->Q () { s with heap:=h',toks:=t' })->wpAny P.M A (assign tg cenv c) Q E s
theorem qHs{e:Env}(h:e.scope.kind=.function):(e.scope.kind == .class||(e.scope.kind == .module&&e.locals != e.globals))=false:=by rw[h];rfl
theorem qLy(J:cs.names.lookup x=some .local):TgOk P A cs (zDf x) (.Name x p):=by
 refine⟨λq q q q q h=>g7 h,?_⟩;intro fr W H s I U cenv C m S hk L hm v c l D hv Q E N;subst S;subst D;refine dI (gK (hk x J) hm (λV T O=>N _ _ _ T (λb o D e=>(O.2 b D).trans e) λy u F=>?_) (qHs L));by_cases h:y=x
 .subst h;obtain e:v=u:=by simpa[k8]using F
  subst e;exact⟨J,c,d3 rfl,hv⟩
 .obtain D:(y==x)=false:=k9 h;simp only[iO,D]at F;exact zN1 F
def qFv(cx:Cx)(elt:X)(B:V->Option (List (Str×V)))(cond:X)(cel:List (Str×Nat))(v:V)(σ:St):Rs (Option V):=
 (B v).elim .bad λl=>(ev cx cond { σ with l:=l,e:=cel }).bind λb aD=>qAw b aD (ev cx elt)
theorem zCq{cond:X}(h:qFv cx elt B cond cel v σ=.ok o σ'):∃l b a0,B v=some l/\ev cx cond { σ with l:=l,e:=cel }=.ok b a0/\((truV a0.h b=some true/\∃r,ev cx elt a0=.ok r σ'/\o=some r)\/(truV a0.h b=some false/\o=none/\σ'=a0)):=by
 unfold qFv at h;cases I:B v with
 |none=>rw[I]at h;cases h
 |some l =>
 rw[I]at h;replace h:(ev cx cond { σ with l:=l,e:=cel }).bind (λb aD=>qAw b aD (ev cx elt))=.ok o σ':=h;cases D:ev cx cond { σ with l:=l,e:=cel }with
 |ok b a0 =>
  replace h:=D▸h;have u:qAw b a0 (ev cx elt)=.ok o σ':=h;refine⟨l,b,a0,rfl,D,?_⟩;unfold qAw at u;cases q:truV a0.h b with
  |none=>replace u:=q▸u;cases u
  |some t=>cases t with
  |false=>rw[q]at u;injection u with u h_;subst u h_;exact .inr ⟨rfl,rfl,rfl⟩
  |true =>
   replace u:=q▸u;cases F:ev cx elt a0 with
   |ok r a7=>rw[F]at u;injection u with u h_;subst u h_;exact .inl ⟨rfl,r,rfl,rfl⟩
   |bad=>replace u:=F▸u;cases u
 |bad=>replace h:=D▸h;cases h
structure CompInv(P:Par)(fr:Ln)(env:Env)(aB:Wd)(a0:St)(a9:g6)(vi:V)(I D C:Nat)(i:Nat)(acc:List V)(W:Wd)(σ:St)(s:g6):Prop where
 st:Step P fr env aB a0 a9 W { a0 with h:=σ.h } s
 oI:Out P fr W σ.n I
 oD:Out P fr W σ.n D
 oC:Out P fr W σ.n C
 it:ItAt W σ.n s.heap I vi i
 ac:∃ys n,s.heap.get? D=some (listOf ys n)/\VRs W σ.n acc ys.toList
 ns:∃m,s.heap.Ns C m
theorem CompInv.aside{U:Wd}{a0:St}{L:g6}{F:V}{I D C j:Nat}{acc:List V}{W:Wd}{σ:St}{s:g6}(J:CompInv P fr env U a0 L F I D C j acc W σ s)(hL:env.locals∈fr)(Z:L.heap.get? I=none)(S:I≠D)(N:I≠C){u:nZ}{t:Nat}{T:Nat}(hs:lP I s.heap u)(O:ItAt W σ.n u I F T):CompInv P fr env U a0 L F I D C T acc W σ { s with heap:=u,toks:=t }:=by
 refine bp J.ac λys nl Y X=>bC λn0=>?_;obtain⟨m,hm⟩:=J.ns;exact n0 (⟨J.st.aside hL Z J.oI (λb o hb e=>(hs.2 b hb).trans e) rfl rfl,J.oI,J.oD,J.oC,O,⟨ys,nl,(hs.2 D (fR S)).trans Y,X⟩,m,hm.sameBut hs (fR N)⟩)
theorem CompInv.names{S:Wd}{O:V}(J:CompInv P fr env S a0 F O I D C j acc W σ s)(hL:env.locals∈fr)(X:F.heap.get? C=none)(N:D≠C)(L:I≠C) 
  (hs:∀b o,b≠C->s.heap.get? b=some o->u.get? b=some o)(hm:u.Ns C m):CompInv P fr env S a0 F O I D C j acc W σ { s with heap:=u,toks:=t }:=bp J.ac λys nl U T=>⟨J.st.aside hL X J.oC hs rfl rfl,J.oI,J.oD,J.oC,J.it.mono (.refl ..) (i5 _) λo e=>hs I o L e,⟨ys,nl,hs D _ N U,T⟩,m,hm⟩
theorem CompInv.inner{U:Wd}{a0:St}{L:g6}{T:V}{I D C j:Nat}{acc:List V}{W:Wd}{σ:St}{s:g6}(J:CompInv P fr env U a0 L T I D C j acc W σ s)(hL:env.locals∈fr)(Y:L.heap.get? C=none)(S:D≠C)(O:I≠C){cenv:Env}(hc:cenv.locals=C){l:List (Str×V)}{cl:List (Str×Nat)}{W':Wd}{σ':St}{s':g6}(st:Step P (C::fr) cenv W { σ with l:=l,e:=cl } s W' σ' s'):CompInv P fr env U a0 L T I D C j acc W' σ' s':=by
 refine bp J.ac λys nl N X=>bC λn0=>?_;obtain⟨oI,Z⟩:=J.it.there;refine n0 (dq J.ns λm oN es ep eN z=>?_);have keep:∀{a:Nat}{u:Obj},s.heap.get? a=some u->a≠C->Out P fr W σ.n a->s'.heap.get? a=some u:=λ{a u} e F x=>st.nx.ext a u e (λq=>F (q.trans hc)) (λhm=>(List.mem_cons.mp hm).elim F x.notFr) x.notOwn;exact⟨Step.inner (σ':={ a0 with h:=σ.h }) (a0:={ σ with l:=l,e:=cl }) J.st hL Y hc (λq=>J.oC.notFr (q▸hL)) rfl st,J.oI.step Z st.nx,J.oD.step N st.nx,J.oC.step eN st.nx,J.it.mono st.nx.wle st.nx.le λo e=>keep e O J.oI,
  ⟨ys,nl,keep N S J.oD,X.mono st.nx.wle st.nx.le⟩,ae st.l.l λm a z=> ⟨m,hc▸a⟩⟩
theorem qKw(I:Nat->g6->Prop)(J:∀n s,I n s->wpAny P.M A (pyNext it) (λr N=>match r with
   |none=>R (.ok .next) N
   |some v=>wpAny P.M A (letOwnedTupleGo D it v) (λz F=>wpAny P.M A (assign D cenv v) (λ_ F =>
     wpAny P.M A (forIn ifs true λc r=>if r then do let ok <- isTrue c cenv (eval c cenv);pure (fU ok)else pure (fU r)) (λok L =>
      if ok then wpAny P.M A (eval elt cenv) (λx O =>
       wpAny P.M A (call (.builtin "list.append") [acc,x]) (λz S=>∃m,m<n/\I m S) (notedBy P.M A cenv λe s'=>R (.error e) s') O) (notedBy P.M A cenv λe s'=>R (.error e) s') L
      else∃m,m<n/\I m L) (notedBy P.M A cenv λe s'=>R (.error e) s') F) (notedBy P.M A cenv λe s'=>R (.error e) s') F) (notedBy P.M A cenv λe s'=>R (.error e) s') N) (notedBy P.M A cenv λe s'=>R (.error e) s') s)(n:Nat)(h:I n s):codeAny P.M A (.compLoop (.ListComp elt [⟨D,u,ifs,0⟩] scope pos) 0 it acc cenv) R s:=by
 refine codeAny_loop rfl I (λn s Z=>?_) n h;show wpAny _ A ((compTurn (.ListComp elt [⟨D,u,ifs,0⟩] scope pos) 0 it acc cenv).onRaise _) _ _ s;refine wpAny_noted ?_;rw[compTurn_list];refine d8 (eL (d8 (j9 (J n s Z) (λr N T=>?_) λz z q=>q)));cases r with
 |none=>exact g7 T
 |some v =>
  refine d8 (j9 T (λz F aX=>d8 (j9 aX (λz L V=>d8 (j9 V (λok O U=>?_) λz z q=>q)) λz z q=>q)) λz z q=>q);cases ok with
  |false=>exact g7 ⟨rfl,U⟩
  |true=>exact d8 (d8 (j9 U (λx S Y=>d8 (j9 Y (λz cV X=>g7 (g7 ⟨rfl,X⟩)) λz z q=>q)) λz z q=>q))
theorem qVo(hh:A.handled=none){cond:X}(T:TgOk P A cs B tg)(ie:Snd P cx elt cs (.e e))(ic:Snd P cx cond cs (.ofCond ifs))(F:Fm P cx.lvl fr A env)(S:ScOk sc env)(O:ScopeOk sc cs){I D C:Nat}(nI:a9.heap.get? I=none)(nD:a9.heap.get? D=none)(nC:a9.heap.get? C=none)(aa:I≠D)(N:I≠C)(a3:D≠C)(ay:total.length<=j0) 
  (hR:∀W s,Step P fr env aB a0 a9 W { a0 with h:=σf.h } s->Out P fr W σf.n D->Out P fr W σf.n C->(∃ys n,s.heap.get? D=some (listOf ys n)/\VRs W σf.n total ys.toList)->(∃m,s.heap.Ns C m)->R (.ok .next) s)(hj:j<=xs.length)(J:CompInv P fr env aB a0 a9 vi I D C j acc W σ s)(Y:turns vi xs (qFv cx elt B cond a0.e) (xs.drop j) σ=.ok rest σf)(u:acc++rest=total):codeAny P.M A (.compLoop (.ListComp e [⟨tg,i,ifs,0⟩] cs p) 0 (.ref I) (.ref D) (compEnvC cs (clOf env cs.names []) C env)) R s:=by
 have SC:=qTn S O C;have FC:Fm P cx.lvl (C::fr) A (compEnvC cs (clOf env cs.names []) C env):=⟨.head _,F.handled,F.units,F.depth,let⟨l,a,b⟩:=F.frames;⟨l,a,λe he=>let⟨p,L,q,r⟩:=b e he;⟨p,L,q,.tail _ r⟩⟩⟩
 refine qKw (λn s=>∃W σ acc rest j,n=xs.length+1-j/\j<=xs.length/\CompInv P fr env aB a0 a9 vi I D C j acc W σ s/\turns vi xs (qFv cx elt B cond a0.e) (xs.drop j) σ=.ok rest σf/\acc++rest=total) ?_ _ ⟨W,σ,acc,rest,j,rfl,hj,J,Y,u⟩;intro n s h0;refine bC λZ=>?_;obtain⟨W,σ,acc,rest,j,rfl,hj,J,Y,u⟩:=h0;have a8:=uZ Y;cases hx:xs[j]? with
 |none =>obtain Y:=(lQ (List.getElem?_eq_none_iff.mp hx))▸Y;obtain⟨rfl,rfl⟩:=qRy Y;refine Z (qJx hh (σ:=σf) J.st.inv J.it a8 hx λh' hk=>bp J.ac λys nl q1 q2=>dq J.ns λm oN es ep q3 q4=>?_);refine hR W _ (J.st.aside F.hL nI J.oI (λb o hb e=>hk b o hb e) rfl rfl) J.oD J.oC ⟨ys,nl,hk _ _ (fR aa) q1,?_⟩ ⟨m,oN,es,ep,hk _ _ (fR N) q3,q4⟩;rw[<- u,eF];exact q2
 |some v =>
  obtain⟨a2,hv⟩:=List.getElem?_eq_some_iff.mp hx;rw[dM a2,hv]at Y;refine cm (qLr Y) λo a7 vs hf ah ar=>?_;subst ar;refine cm (zCq hf) λl b aD hB hb a1=>Z ?_;obtain hn1:xs.length+1-(j+1)<xs.length+1-j:=Nat.sub_lt_sub_left (dU a2) (s9 j);refine qFj (σ:=σ) J.st.inv J.it a8 hx λc aE cD ai aj cF=>?_;have bJ:=J.aside (t:=cD) F.hL nI aa N cF aj;obtain⟨m,hm⟩:=bJ.ns;refine T.go aj hB ai (T.put bJ.st.inv F.handled (cenv:=compEnvC cs (clOf env cs.names []) C env) (C:=C) rfl SC.l (O.kind) hm hB ai λaX bK cW aY aZ cG=>?_);have bA:=bJ.names (t:=bK) F.hL nC a3 N aZ aY;obtain⟨oN,eN,dN⟩:∃o,aX.get? C=some o/\∀vs,o.data≠.fields vs:=cm aY λo z z e d z=> ⟨o,e,λvs q=>by replace q:=d▸q;cases q⟩;refine qXh (frC:=C::fr) ic FC SC (σ:={ σ with l:=l,e:=a0.e }) (Inv.under (σ:=σ) bA.st.inv bA.oC eN dN) (zAu (σ:={ a0 with h:=σ.h }) S O bA.st.l aY cG) hb (bb:=o.isSome) ?_ λaL aK aC=>?_
  .rcases a1 with⟨q,r,_,rfl⟩|⟨q,rfl,_⟩
   .exact q
   .exact q
  obtain bV:=bA.inner F.hL nC a3 N rfl aC;refine bC λZ=>?_;rcases a1 with⟨q,r,hr,rfl⟩|⟨q,rfl,rfl⟩
  .refine Z ?_;rw[d3 (show(some r).isSome=true from rfl)];refine j9 ((ie (C::fr) A _ FC SC).1 aL aD aK aC.inv aC.l (by rw[hr];intro q;cases q)) (λcr aR ⟨v',σ',aS,aU,aO,cH⟩=>bC λZ=>?_) (λee s' h=>h.elim);rw[hr]at aU;injection aU with aU h_;subst aU h_
   have U:=bV.inner (l:=aD.l) (cl:=aD.e) F.hL nC a3 N rfl aO;refine bp U.ac λys nl q1 q2=>?_;obtain⟨cI,cJ⟩:=U.ns;refine Z (qAb q1 (λbU cX q5 bL=>?_) (by
    rw[<- h9,q2.length]
    refine b7 ?_ ay
    rw[<- u,g8];exact n5 _ _))
   refine⟨xs.length+1-(j+1),hn1,aS,a7,acc++[r],vs,j+1,rfl,a2,⟨U.st.aside F.hL nD U.oD (λb o hb e=>(bL.2 b hb).trans e) rfl rfl,U.oI,U.oD,U.oC,U.it.mono (.refl ..) (i5 _) λo e=>(bL.2 I aa).trans e,⟨_,_,q5,?_⟩,⟨cI,cJ.sameBut bL (fR a3)⟩⟩,ah,by rw[u3];exact u⟩;rw[mG];exact q2.append (.cons cH .nil)
  .refine Z ?_;rw[b6 (show¬(none:Option V).isSome=true from Bool.false_ne_true)];exact⟨xs.length+1-(j+1),hn1,aL,_,acc,vs,j+1,rfl,a2,bV,ah,u⟩
structure Raw(P:Par)(fr:Ln)(env:Env)(W:Wd)(σ:St)(s:g6)(xs:List V)(σ':St)(a:Nat)(W':Wd)(s':g6):Prop where
 st:Step P fr env W σ s W' σ' s'
 new:s.heap.get? a=none
 out:Out P fr W' σ'.n a
 at_:∃ys n,s'.heap.get? a=some (listOf ys n)/\VRs W' σ'.n xs ys.toList
 sz:xs.length<=j0
theorem Raw.frozen(R:Raw P fr env W σ s xs σ' a W' s'):Post P fr env W σ s (.ok (.list xs) σ') (.ref a) s':=by
 refine bp R.at_ λys n D u=>?_;refine⟨_,_,_,rfl,(R.st.freezeLate R.new D R.out),.list (o:=listOf ys n) (items:=ys) (e:=n) ?_ rfl rfl (by
  have:=u.length
  obtain this:=Array.length_toList.symm.trans this
  have:=R.sz
  lia) (u.mono (⟨λq q=>rfl,λb c e=>by
  show(if b=a then _ else _)=_
  rw[b6];exact e
  rintro rfl;replace e:=R.out.notFz.symm.trans e;cases e⟩:Wle σ'.n W' (W'.freeze a (listOf ys n))) (i5 _)) rfl⟩
 exact ax rfl rfl
structure CompEnd(P:Par)(fr:Ln)(env:Env)(W:Wd)(σ:St)(s:g6)(xs:List V)(σ':St)(a C:Nat)(W':Wd)(s':g6):Prop where
 raw:Raw P fr env W σ s xs σ' a W' s'
 newC:s.heap.get? C=none
 outC:Out P fr W' σ'.n C
 ne:a≠C
 ns:∃m,s'.heap.Ns C m
theorem CompEnd.go(R:CompEnd P fr env W σ s xs σ' a C W' s')(F:Fm P cx.lvl fr A env)(hs:lP C s'.heap u):Raw P fr env W σ s xs σ' a W' { s' with heap:=u }:=bp R.raw.at_ λys n I D=>⟨R.raw.st.aside F.hL R.newC R.outC (λb o J e=>(hs.2 b J).trans e) rfl rfl,R.raw.new,R.raw.out,⟨ys,n,(hs.2 _ R.ne).trans I,D⟩,R.raw.sz⟩
def qFw(cx:Cx)(elt:X)(B:V->Option (List (Str×V)))(it cond:X)(σ:St):Rs V:=(ev cx it σ).bind λD a0=>match itsV a0.h D with
  |some xs=>(turns D xs (qFv cx elt B cond a0.e) xs a0).bind λu a7=>fits u.length (.ok (.list u) { a0 with h:=a7.h })
  |Option.none=>.bad
theorem comp_is{cond:X}:ev cx (.comp elt x it cond) σ=qFw cx elt (zDf x) it cond σ:=rfl
theorem qKx:ev cx (.comp2 elt x y it) σ=qFw cx elt (qGa x y) it (.bool true) σ:=rfl
theorem wY{cond:X}(T:TgOk P A cs B tg)(ie:Snd P cx elt cs (.e e))(ii:Snd P cx it sc (.e i))(ic:Snd P cx cond cs (.ofCond ifs))(F:Fm P cx.lvl fr A env)(S:ScOk sc env)(O:ScopeOk sc cs)(h1:xC i=false)(I:Inv P fr W σ.h s)(L:Loc P env W σ s.heap)(u:qFw cx elt B it cond σ≠.bad){Q:Pv}{E:Pv}(hE:∀e s',NoE e s'->E e s')(D:∀xs σ' a C W' s',qFw cx elt B it cond σ=.ok (.list xs) σ'->CompEnd P fr env W σ s xs σ' a C W' s'->compPost P.M A E a2 Q (.ref a) C (.ok .next) s'):wpAny P.M A (comprehension (.ListComp e [⟨tg,i,ifs,0⟩] cs p) cs env af (newList []) false (eval i env) a2) Q E s:=by
 unfold qFw at u D;refine wpAny_comprehension_free rfl (qHe h1) (qOj λn hn=>S.has n (S.e n (O.free n hn))) O.kind O.locs (zO (ii fr A env F S).1 I L u hE λvi ci aB a0 N aG U al=>?_);rw[Rs.bind_ok aG]at u D;cases a1:itsV a0.h vi with
 |none=>rw[a1]at u;exact d9 rfl u
 |some xs =>
  rw[a1]at u D;dsimp only at u D;refine cg (qWv (Rs.bind_ne u)) λvs σf ht=>?_;rw[Rs.bind_ok ht]at u D;refine bo (qBt u) λhz ah=>?_;rw[ah]at D;refine qDh U.inv al a1 λob ac=>fQ (wpAny_newFunctionEnv O.nocell (by intro y hy;simp at hy) (λaE bB Z=>?_) O.kind);dsimp only at bB Z ⊢;generalize ad:N.heap.push ob=H1 at bB Z ac ⊢;have z1:H1.objs.size=N.heap.objs.size+1:=by rw[<- ad,lO]
  generalize Y:H1.push { cls:=.type "list",dict:=none,data:=.seq ([]:Lv).toArray }=H2 at bB Z ⊢;have z2:H2.objs.size=N.heap.objs.size+2:=by rw[<- Y,lO,z1]
  obtain nI:N.heap.get? N.heap.objs.size=none:=vP _;have nD:N.heap.get? H1.objs.size=none:=fM (by rw[z1];exact eM _);have nC:N.heap.get? H2.objs.size=none:=fM (by rw[z2];exact n5 _ _);obtain up:∀{a:Nat},N.heap.get? a=none->s.heap.get? a=none:=λ{a} h=>by
   cases q:s.heap.get? a with
   |none=>rfl
   |some o=>obtain⟨o',e'⟩:=U.nx.live _ _ q;rw[h]at e';exact nomatch e'
  obtain hID:N.heap.objs.size≠H1.objs.size:=by rw[z1];exact n3 (s9 _)
  obtain hIC:N.heap.objs.size≠H2.objs.size:=by rw[z2];simp
  have a3:H1.objs.size≠H2.objs.size:=by rw[z1,z2];exact gq
  obtain old:∀b o,N.heap.get? b=some o->aE.get? b=some o:=λb o e=>Z.extBut b o (by rintro rfl;rw[nC]at e;exact nomatch e) (bW _ (Y▸bW _ (ad▸bW _ e)));obtain eD:aE.get? H1.objs.size=some (listOf #[] 0):=Z.extBut _ _ a3 (bW _ (Y▸eH _ rfl));have b8:ItAt aB a0.n aE N.heap.objs.size vi 0:=ac.mono (.refl ..) (i5 _) (λo e=>Z.extBut _ _ hIC (bW _ (Y▸bW _ e)));have J:CompInv P fr env aB a0 N vi N.heap.objs.size H1.objs.size H2.objs.size 0 [] aB a0 { N with heap:=aE }:=
   ⟨(Step.grow U.inv U.l old rfl rfl),Out.new U.inv nI,Out.new U.inv nD,Out.new U.inv nC,b8,⟨#[],0,eD,.nil⟩,⟨_,bB⟩⟩
  have loop:=qVo F.handled T (e:=e) (i:=i) (p:=p) ie ic F S O nI nD nC hID hIC a3 (total:=vs) (σf:=σf) hz (acc:=[]) (rest:=vs) (j:=0)
   (R:=compPost P.M A E a2 Q (.ref H1.objs.size) H2.objs.size) ?_ (v0 _) J (ht) rfl
  .exact codeAny_compStart_list loop (qNt (v:=vi) (n:=a0.n) (W:=aB) (i:=0) b8 loop)
  .intro W' s' an oD oC ak hm;exact D vs _ H1.objs.size H2.objs.size W' s' rfl ⟨⟨U.trans an,up nD,oD,ak,hz⟩,up nC,oC,a3,hm⟩
theorem qYd{cond:X}(N:Snd P cx it sc (.e i))(J:Snd P cx elt cs (.e e))(O:Snd P cx cond cs (.ofCond ifs))(h4:xP x sc cs)(h1:xC i=false):Snd P cx (.comp elt x it cond) sc (.e (.ListComp e [⟨.Name x D,i,ifs,0⟩] cs p)):=by
 intro fr A env F S;obtain key:OkE P fr A env (eval (.ListComp e [⟨.Name x D,i,ifs,0⟩] cs p) env) (ev cx (.comp elt x it cond)):=λW σ s I L u=>by refine wY (qLy (kX h4).2) J N O F S (kX h4).1 h1 I L u (λq q h=>h) λxs σ' a C W' s' e R=>?_;obtain⟨m,hm⟩:=R.ns;exact⟨m,hm,λT hs=>by simp only[comp_is,e];exact(R.go F hs).frozen⟩
 exact⟨key,qP key λq=>rfl⟩
theorem Step.addLate(st:Step P fr env W σ s W' σ' s'){a:Nat}(U:s.heap.get? a=none)(e:s'.heap.get? a=some c)(x:Out P fr W' σ'.n a)(T:OR (W'.add σ'.n a) (σ'.n+1) o c):Step P fr env W σ s (W'.add σ'.n a) (σ'.add o) s':=by
 have F:=W'.add_le σ'.n a;have J:=st.inv;have u:(W'.add σ'.n a).ρ σ'.n=a:=ax rfl rfl;have D:∀k,k<σ'.n+1->k=σ'.n\/(k<σ'.n/\(W'.add σ'.n a).ρ k=W'.ρ k):=λk h=>by
  rcases Nat.lt_succ_iff_lt_or_eq.mp h with h|h
  .exact .inr ⟨h,F.ρ k h⟩
  .exact .inl h
 refine⟨⟨st.nx.wle.trans st.nx.le F,m3 st.nx.le,st.nx.live,λk h1 h2=>?_,st.nx.fzn,st.nx.ext,st.nx.fext⟩,
  ⟨J.keep,λk h=>?_,λk h=>?_,λk h=>?_,λk h=>?_,λi j hi V h=>?_,λk S h=>?_,J.frz,J.frB,J.gens,J.os⟩,?_⟩
 .rcases D k h2 with rfl|⟨q,r⟩
  .rw[u];exact U
  .rw[r];exact st.nx.new k h1 q
 .rcases D k h with rfl|⟨q,r⟩
  .rw[u];exact x.notB
  .rw[r];exact J.old k q
 .rcases D k h with rfl|⟨q,r⟩
  .rw[u];exact⟨_,e⟩
  .rw[r];exact J.live k q
 .rcases D k h with rfl|⟨q,r⟩
  .rw[u];exact x.notFr
  .rw[r];exact J.nofr k q
 .rcases D k h with rfl|⟨q,r⟩
  .rw[u];exact x.notFz
  .rw[r];exact J.nofz k q
 .rcases D i hi with rfl|⟨q,r⟩ <;> rcases D j V with rfl|⟨q',r'⟩
  .rfl
  .rw[u,r']at h;exact d9 h.symm (x.notOwn j q')
  .rw[u,r]at h;exact d9 h (x.notOwn i q)
  .rw[r,r']at h;exact J.inj i j q q' h
 .have I:(if k=σ'.n then some o else σ'.o k)=some S:=h;by_cases L:k=σ'.n
  .subst L;replace I:=aw rfl I;subst I;exact⟨s9 _,c,by rw[u];exact e,T⟩
  .obtain I:=ao L I;obtain⟨N,c',b,d⟩:=J.o k S I;exact⟨dU N,c',by rw[F.ρ k N];exact b,d.mono F (eM _)⟩
 .have J':=st.l;exact⟨J'.kind,J'.g,J'.bns,let⟨m,a,b⟩:=J'.l;⟨m,a,λx v h=>let⟨p,c,q,r⟩:=b x v h;⟨p,c,q,r.mono F (eM _)⟩⟩,
   λx k h=>bo (J'.e x k h) λp q=> ⟨dU p,λhk=>by rw[F.ρ k p];exact q hk⟩⟩
set_option genCtorIdx true in
inductive Keep where
 |froze
 |owned
noncomputable def Keep.val(k:Keep)(xs:List V)(σ:St):V:=match k with| .froze=>.list xs| .owned=>.ref σ.n
noncomputable def Keep.st(k:Keep)(xs:List V)(σ:St):St:=match k with| .froze=>σ| .owned=>σ.add (.list xs)
theorem Raw.keep(k:Keep)(R:Raw P fr env W σ s xs σ' a W' s'):∃W'',Step P fr env W σ s W'' (k.st xs σ') s'/\VR W'' (k.st xs σ').n (k.val xs σ') (.ref a)/\∀b,b≠a->Out P fr W' σ'.n b->Out P fr W'' (k.st xs σ').n b:=by
 refine bp R.at_ λys n I D=>?_;have u:ys.size<=j0:=by have:=D.length;rw[h9]at this;have:=R.sz;lia
 cases k with
 |froze =>
  refine⟨_,R.st.freezeLate R.new I R.out,.list (o:=listOf ys n) (items:=ys) (e:=n) ?_ rfl rfl u (D.mono (⟨λz z=>rfl,λb c e=>by
   show(if b=a then _ else _)=_
   rw[b6];exact e
   rintro rfl;replace e:=R.out.notFz▸e;cases e⟩:Wle σ'.n W' (W'.freeze a (listOf ys n))) (i5 _)) rfl,λb F o=>⟨o.notB,o.notFr,?_,o.notOwn⟩⟩
  .exact ax rfl rfl
  .show(if b=a then _ else _)=_;rw[b6 F];exact o.notFz
 |owned =>
  obtain wl:=W'.add_le σ'.n a;obtain ρn:(W'.add σ'.n a).ρ σ'.n=a:=ax rfl rfl;refine⟨_,R.st.addLate R.new I R.out (.list (D.mono wl (eM _)) u),?_,λb F o=>⟨o.notB,o.notFr,o.notFz,λk hk q=>?_⟩⟩
  .obtain h1:VR (W'.add σ'.n a) (σ'.n+1) (.ref σ'.n) (.ref ((W'.add σ'.n a).ρ σ'.n)):=.ref (s9 _);rw[ρn]at h1;exact h1
  .rcases Nat.lt_succ_iff_lt_or_eq.mp hk with h|h
   .rw[wl.ρ k h]at q;exact o.notOwn k h q
   .subst h;rw[ρn]at q;exact F q.symm
end
section
variable{P:Par}{A:w4}{W:Wd}{s:g6}{E:Pv}
theorem zPw(x:ItAt W n s.heap Ia v i){a:Nat}(L:Q () s):wpAny P.M A (letOwnedTupleGo (.Tuple D J p) (.ref Ia) (.ref a)) Q E s:=by
 have u:∀{o:Obj}{F:String}{I:Array j7},s.heap.get? Ia=some o->o.cls=.type F->o.data=.fields I->["enumerate","zip","dict_itemiterator","dict_reverseitemiterator","odict_iterator","itertools.zip_longest","itertools.pairwise"].contains F=false->wpAny P.M A (letOwnedTupleGo (.Tuple D J p) (.ref Ia) (.ref a)) Q E s:=λ{o F I} h1 h2 h3 h4=>by obtain⟨c,d,e,f⟩:=o;subst h2;subst h3;refine d8 (iD h1 ?_);show wpAny _ _ (if((["enumerate","zip","dict_itemiterator","dict_reverseitemiterator","odict_iterator","itertools.zip_longest","itertools.pairwise"].contains F&&_)=true)then _ else _) _ _ _;rw[h4,nE];exact g7 L
 cases x with
 |list a b d=>obtain⟨o,h1,h2,h3⟩:=d;exact u h1 h2 h3 pi
 |tup a d=>obtain⟨o,h1,h2,h3⟩:=d;exact u h1 h2 h3 pi
 |rng a=>exact u a rfl rfl pi
theorem zLk(S:cs.names.lookup x=some .local)(U:cs.names.lookup y=some .local)(T:x≠y):TgOk P A cs (qGa x y) (.Tuple [.Name x p,.Name y q] k r):=by
 refine⟨λ{W n Ia i s v y c l} hi F hv {Q E} h=>?_,?_⟩
 .refine qa (F) λw h1 w=>ae (pz h1) λw h2 w=>?_;cases y with
  |tup =>refine dq hv.dat λt w w w J w=>?_;subst J;exact zPw hi h
  |_=>exact zN1 h2
 intro fr W H s I hA cenv C m hC hk O hm v c l F hv Q E hQ;subst hC;obtain⟨⟨a,b⟩,h1,rfl⟩:=qb (F);refine px h1 λws h2 h3=>?_;obtain rfl:ws=[a,b]:=by
  match ws,h3 with
  | [_,_],h3=>cases h3;rfl
 cases v with
 |tup =>
  refine dc hv.dat λt o items e' J Y g2 g3 g4 Z=>?_;subst J;subst h2;obtain⟨cl⟩:=items;refine bi (VRs.inv2 Z) λN L e2 X vb=>?_;have e3:cl=[N,L]:=e2;subst e3;refine d8 (eL (d8 (r9 (wpAny_unpackItems_tuple hA (items:=#[N,L]) ⟨o,(I.frz _ _ Y).1,g2,e',g3⟩ λaE V=>?_))));refine d8 (r9 (dI (gK (hk x S) (hm.extBut V (by exact dp hm λo w w e w=>n3 (rJ e))) (λaX aY aZ=>?_) (qHs O))));refine d8 (r9 (dI (gK (hk y U) aY (λbR bX cK=>g7 (hQ _ _ _ bX (λb o F e=>(cK.2 b F).trans ((aZ.2 b F).trans (V b o (n3 (rJ e)) e))) λz u D=>?_)) (qHs O))));obtain D:k8 z [(y,b),(x,a)]=some u:=D;by_cases h:z=y
  .subst h;obtain e:b=u:=by simpa[k8]using D
   subst e;exact⟨U,L,d3 rfl,vb⟩
  .obtain hb':(z==y)=false:=k9 h;simp only[iO,hb']at D;by_cases h2:z=x
   .subst h2;obtain e:a=u:=by simpa[k8]using D
    subst e;exact⟨S,N,(b6 T).trans (d3 rfl),X⟩
   .obtain hb2:(z==x)=false:=k9 h2;simp only[iO,hb2]at D;exact zN1 D
 |_=>exact zN1 h2
theorem qSv{O:Pos}(V:Snd P cx it sc (.e i))(U:Snd P cx elt cs (.e e))(h4:qCv x y sc cs)(h1:xC i=false):Snd P cx (.comp2 elt x y it) sc (.e (.ListComp e [⟨.Tuple [.Name x J,.Name y N] k O,i,[],0⟩] cs p)):=by
 intro fr A env F S;unfold qCv at h4;rw[i6,i6,w6,oX]at h4;obtain⟨⟨D,T⟩,Y⟩:=h4;obtain key:OkE P fr A env (eval (.ListComp e [⟨.Tuple [.Name x J,.Name y N] k O,i,[],0⟩] cs p) env) (ev cx (.comp2 elt x y it)):=λW σ s I L u=>by rw[eval_ListComp];rw[qKx]at u;refine wY (cond:=.bool true) (ifs:=[]) (zLk (kX D).2 T Y) U V (snd_tt:Snd P cx (.bool true) cs (.ofCond [])) F S (kX D).1 h1 I L u (λq q h=>h) λxs σ' a C W' s' e R=>?_;obtain⟨m,hm⟩:=R.ns;exact⟨m,hm,λZ hs=>by rw[qKx,e];exact(R.go F hs).frozen⟩
 exact⟨key,qP key λq=>rfl⟩
theorem sound(C:CxOk P cx)(h:Ok x sc D):Snd P cx x sc D:=by
 induction h with
 |none=>exact qXy
 |none'=>exact qSu
 |bool=>exact qYf
 |tt=>exact snd_tt
 |int=>exact zFi
 |str h=>exact zFb h
 |v h=>exact zEz h
 |cv h=>exact zLr h
 |g h=>exact qYb C h
 |bin _ _ a b=>exact zFl a b
 |neg _ a=>exact zFg a
 |not _ a=>exact zFe a
 |cmp _ _ h a b=>exact zFk a b h
 |and _ _ a b=>exact zFm a b
 |and' _ _ a b=>exact qYh a b
 |or _ _ a b=>exact zLq a b
 |or' _ _ a b=>exact zFd a b
 |ite _ _ _ a b c=>exact zFh a b c
 |idx _ _ h a b=>exact zFj a b h
 |slc _ _ _ a b c=>exact zFc a b c
 |attr _ h a=>exact qYg C a h
 |list _ a=>exact qYa a
 |tup _ a=>exact zFa a
 |nil=>exact zFf
 |cons _ _ h a b=>exact qYc a b h
 |call _ _ a b=>exact qYe C a b
 |m _ _ h u a b=>exact qXz C a b h u
 |comp _ _ _ h u a b c=>exact qYd a b c h u
 |comp2 _ _ h u a b=>exact qSv a b h u
end
set_option genCtorIdx true in
inductive Fl where
 |next
 |brk
 |cont
 |ret(v:V)
noncomputable def zBj:Option O->Bool
 |some (.cell _)=>true
 |_=>false
def St.setC(σ:St)(x:Str)(v:V):Option St:=(σ.e.lookup x).bind λk=>if zBj (σ.o k)then some { σ with o:=λj=>if j=k then some (.cell (some v))else σ.o j }else none
theorem qCi{σ σ':St}{x:Str}{v:V}(h:σ.setC x v=some σ'):∃k o,σ.e.lookup x=some k/\σ.o k=some (.cell o)/\σ'={ σ with o:=λj=>if j=k then some (.cell (some v))else σ.o j }:=by
 refine px h λk h1 h2=>?_;clear h;cases u:σ.o k with
 |none=>obtain h2:=u▸h2;cases h2
 |some o=>cases o with
  |cell o=>rw[u]at h2;subst h2;exact⟨k,o,h1,u,rfl⟩
  |_=>rw[u]at h2;cases h2
noncomputable def setF(x:Str)(v:V):List (Str×V)->List (Str×V)
 | []=>[(x,v)]
 |(y,u)::r=>if x==y then(y,v)::r else(y,u)::setF x v r
theorem qGw:setF x v ((y,u)::r)=if x==y then(y,v)::r else(y,u)::setF x v r:=rfl
set_option tactic.hygienic true in
noncomputable def qAm(k:St->Rs Fl):Fl->St->Rs Fl
 | .next,σ=>k σ
 | .cont,σ=>k σ
 | .brk,σ=>.ok .next σ
 | .ret v,σ=>.ok (.ret v) σ
def vE(c:St->Rs Bool)(b o:St->Rs Fl):Nat->St->Rs Fl
 |0,_=>.bad
 |n+1,σ=>(c σ).bind λt σ=>if t then(b σ).bind (qAm (vE c b o n))else o σ
open Classical in
set_option tactic.hygienic true in
def eachF(v:V)(all:List V)(b:V->St->Rs Fl):List V->St->Rs Fl
 | [],σ=>if itsV σ.h v=some all then .ok .next σ else .bad
 |y::r,σ=>if itsV σ.h v=some all then(b y σ).bind (qAm (eachF v all b r))else .bad
set_option tactic.hygienic true in
theorem qKo(h:itsV σ.h v=some all):eachF v all b [] σ=.ok .next σ:=d3 h
theorem qRc(h:itsV σ.h v=some all):eachF v all b (y::r) σ=(b y σ).bind (qAm (eachF v all b r)):=d3 h
theorem qKn{l:List V}(h:eachF v all b l σ≠.bad):itsV σ.h v=some all:=by refine eX λq=>h ?_;clear h;cases l <;> exact b6 q
def condS(v:V)(σ:St)(t e:St->Rs Fl):Rs Fl:=match truV σ.h v with
 |some true=>t σ
 |some false=>e σ
 |none=>.bad
structure TabOk(K:Frag)(C d:Addr)(f:Nat->Nat):Prop where
 o:∃o es ep,K.lookup d=some o/\o.cls=.ref C/\o.data=.dict es ep/\IntKeys es/\∀c:Nat,c<128->∃t,findBy nR es (c:Int)=some (.int (f c:Nat) t)
 get:findIn K (.ref C) "__getitem__"=some (some (.builtin "dict.__getitem__"))
 seq:subIn K (.ref C) (.type "collections.deque")=some false
 sub:subIn K (.ref C) (.type "dict")=some true
 low:∀c,c<128->f c<128
noncomputable def trText(f:Nat->Nat)(x:Str):Str:=⟨(x.cps.toList.map f).toArray⟩
noncomputable def qCo(v a b:Str):Bool:=decide (v.length+(v.length+1)*b.length<=16777216)&&decide ((dJ v a b).length<=j0)&&bS (dJ v a b)
def qCm:List (Str×Str)->Str->Option Str
 | [],v=>some v
 |(a,b)::r,v=>if qCo v a b then qCm r (dJ v a b)else none
def qSf(f:Nat->Nat)(v:Str):Bool:=v.cps.toList.all (λc=>decide (c<128))&&bS (trText f v)
def qMo(f:Nat->Nat)(ps:List (Str×Str))(v:Str):Option Str:=if qSf f v then qCm ps (trText f v)else none
structure Sx extends c:Cx where
 tr:V->Option (Nat->Nat)
 setA:V->Str->V->Hp->Option Hp
noncomputable def ownR(v:V)(σ:St)(k:V->St->Rs Fl):Rs Fl:=match v with
 | .list xs=>k (.ref σ.n) (σ.add (.list xs))
 |_=>.bad
set_option tactic.hygienic true in
noncomputable def kV:Option St->Rs Fl
 |some σ=>.ok .next σ
 |none=>.bad
noncomputable def goOn(f:Fl)(σ:St)(k:St->Rs Fl):Rs Fl:=match f with
 | .next=>k σ
 |f=>.ok f σ
def jR(v:V)(k:V->V->Rs Fl):Rs Fl:=match qCs v with
 |some [a,b]=>k a b
 |_=>.bad
set_option tactic.hygienic true in
def qVn(x:Str)(σ:St):Rs Fl:=((σ.l.lookup x).bind (qCt σ.h)).elim .bad λq=>if q.2=[]then .bad else .ok .next { σ with o:=λj=>if j=q.1 then some (.list q.2.dropLast)else σ.o j }
def augV(u v:V):Ov:=match u with
 | .int a=>(qZ v).elim .bad λb=>.ok (.int (a+b))
 | .str a=>(qV v).elim .bad λb=>if a.length+b.length<=j0 then .ok (.str (a++b))else .bad
 |_=>.bad
set_option tactic.hygienic true in
def ex:S->Sx->St->Rs Fl
 | .brk,_,σ=>.ok .brk σ
 | .expr e,cx,σ=>(ev cx.c e σ).bind λq a0=>.ok .next a0
 | .a x e,cx,σ=>(ev cx.c e σ).bind λv a0=>.ok .next (a0.set x v)
 | .own x e,cx,σ=>(ev cx.c e σ).bind λv a0=>ownR v a0 λr a7=>.ok .next (a7.set x r)
 | .asgC x e,cx,σ=>(ev cx.c e σ).bind λv a0=>kV (a0.setC x v)
 | .setA o f e,cx,σ=>(ev cx.c e σ).bind λv a0=>(ev cx.c o a0).bind λvo a7=>kV ((cx.setA vo f v a7.h).map λH=>{ a7 with h:=H })
 | .ret e,cx,σ=>(ev cx.c e σ).bind λv a0=>.ok (.ret v) a0
 | .ite c a b,cx,σ=>(ev cx.c c σ).bind λv a0=>condS v a0 (ex a cx) (ex b cx)
 | .loop n c b o,cx,σ=>vE (tr (ev cx.c c)) (ex b cx) (ex o cx) n σ
 | .each x it b,cx,σ=>(ev cx.c it σ).bind λv a0=>match itsV a0.h v with
  |some xs=>eachF v xs (λu σ=>ex b cx (σ.set x u)) xs a0
  |none=>.bad
 | .assert e,cx,σ=>(ev cx.c e σ).bind λv a0=>condS v a0 (λa0=>.ok .next a0) (λq=>.bad)
 | .nil,_,σ=>.ok .next σ
 | .seq a b,cx,σ=>(ex a cx σ).bind λf a0=>goOn f a0 (ex b cx)
 | .asg2 x y e,cx,σ=>(ev cx.c e σ).bind λv a0=>jR v λa b=>.ok .next ((a0.set x a).set y b)
 | .cont,_,σ=>.ok .cont σ
 | .ret0,_,σ=>.ok (.ret .none) σ
 | .asgs x y e,cx,σ=>(ev cx.c e σ).bind λv a0=>.ok .next ((a0.set x v).set y v)
 | .ownA o f x e,cx,σ=>(ev cx.c e σ).bind λv a0=>ownR v a0 λr a7=>(ev cx.c o a7).bind λvo aD=>kV ((cx.setA vo f r aD.h).map λH=>({ aD with h:=H }:St).set x r)
 | .aug x e,cx,σ=>(ev cx.c (.v x) σ).bind λu aQ=>(ev cx.c e aQ).bind λv a0=>((augV u v).st a0).bind λr a7=>.ok .next (a7.set x r)
 | .setA2 o f o' f' e,cx,σ=>(ev cx.c e σ).bind λv a0=>jR v λa b=>(ev cx.c o a0).bind λvo a7=>(kV ((cx.setA vo f a a7.h).map λH=>{ a7 with h:=H })).bind λ_ aD =>
   (ev cx.c o' aD).bind λD aP=>kV ((cx.setA D f' b aP.h).map λH=>{ aP with h:=H })
 | .delL x,_,σ=>qVn x σ
 | .eachC x it b,cx,σ=>(ev cx.c it σ).bind λv a0=>match itsV a0.h v with
  |some xs=>eachF v xs (λu σ=>match σ.setC x u with|some σ'=>ex b cx σ'|none=>.bad) xs a0
  |none=>.bad
 | .sq x tn ps b,cx,σ=>match σ.l.lookup x with
  |some (.str v)=>(cx.gl tn).elim .bad λvt=>(cx.tr vt).elim .bad λf=>(qMo f ps v).elim .bad λv'=>ex b cx (σ.set x (.str v'))
  |_=>.bad
structure FmS(P:Par)(lv:Nat)(fr:Ln)(A:w4)(env:Env):Prop extends Fm P lv fr A env where
 top:∃outer,A.frames=some (env::outer)
 frame:env.frame=some env.locals
inductive FlR(W:Wd)(n:Nat):Fl->Flow->Prop
 |next:FlR W n .next .next
 |brk:FlR W n .brk .brk
 |cont:FlR W n .cont .cont
 |ret{v:V}{c:j7}:VR W n v c->FlR W n (.ret v) (.ret c)
structure SxOk(P:Par)(cx:Sx):Prop where
 tr:∀v f,cx.tr v=some f->∃d K C,v=.top (.ref d)/\TabOk K C d f/\K.In P.B
 base:CxOk P cx.c
 setA:∀fr A env,Fm P cx.lvl fr A env->∀W σ s,Inv P fr W σ.h s->Loc P env W σ s.heap->∀o f v co c H,VR W σ.n o co->VR W σ.n v c->cx.setA o f v σ.h=some H ->
  ∀(E:Pv)(Q:Unit->g6->Prop),(∀W' s',Step P fr env W σ s W' { σ with h:=H } s'->Q () s')->wpAny P.M A (setAttr co f c) Q E s
section
variable(P:Par)(fr:Ln)(env:Env)(W:Wd)(σ:St)(s:g6)
inductive PostF(r:Rs Fl)(f:Flow)(s':g6):Prop where
 |mk(v:Fl)(σ':St)(W':Wd)(h1:r=.ok v σ')(h2:Step P fr env W σ s W' σ' s')(h3:FlR W' σ'.n v f)
end
def OkS(P:Par)(fr:Ln)(A:w4)(env:Env)(t:Sem Flow)(f:St->Rs Fl):Prop :=
 ∀W σ s,Inv P fr W σ.h s->Loc P env W σ s.heap->f σ≠.bad->wpAny P.M A t (PostF P fr env W σ s (f σ)) NoE s
def zOh(P:Par)(cx:Sx)(st:S)(fr:Ln)(A:w4)(env:Env):Pt->Prop
 | .s x=>OkS P fr A env (exec x env) (ex st cx)
 | .l x=>OkS P fr A env (execs x env) (ex st cx)
def zP(P:Par)(st:S)(sc:Scope)(u:Pt):Prop:=∀cx:Sx,SxOk P cx->∀fr A env,FmS P cx.lvl fr A env->ScOk sc env->zOh P cx st fr A env u
section
variable{P:Par}{fr:Ln}{A:w4}{env:Env}{W W':Wd}{σ σ':St}{s s':g6}{cx:Sx}
theorem PostF.after(a:Step P fr env W σ s W' σ' s')(b:PostF P fr env W' σ' s' r c s''):PostF P fr env W σ s r c s'' :=
 let⟨v,σ'',W'',e,st,h⟩:=b;⟨v,σ'',W'',e,a.trans st,h⟩
theorem qYn:zP P .brk sc (.s (.Break p)):=λcx C fr A env F S W σ s I L q=>wpAny_Break ⟨_,σ,W,rfl,Step.refl I L,.brk⟩
theorem qTd:zP P .cont sc (.s (.Continue p)):=λcx C fr A env F S W σ s I L q=>wpAny_Continue ⟨_,σ,W,rfl,Step.refl I L,.cont⟩
theorem qSx:zP P .ret0 sc (.s (.Return none p)):=λcx C fr A env F S W σ s I L q=>wpAny_Return_none ⟨_,σ,W,rfl,Step.refl I L,.ret .none⟩
theorem qYj(h:Ok e sc (.e v)):zP P (.ret e) sc (.s (.Return (some v) p)):=λcx C fr A env F S W σ s I L u =>
 wpAny_Return_some (zO (k:=λv a0=>Rs.ok (Fl.ret v) a0) (sound C.base h fr A env F.toFm S).1 I L u (λe s' h=>h) λv c W' σ' s' e st hv=>⟨_,σ',W',Rs.bind_ok e,st,.ret hv⟩)
theorem qYl:zP P .nil sc (.l []):=λcx C fr A env F S W σ s I L q=>wpAny_execs_nil ⟨_,σ,W,rfl,Step.refl I L,.next⟩
theorem qYi(U:zP P a sc (.s x))(N:zP P b sc (.l r)):zP P (.seq a b) sc (.l (x::r)):=by
 intro cx C fr A env F S;obtain Ja:=U cx C fr A env F S;obtain Jb:=N cx C fr A env F S;intro W σ s I L D;obtain hev:ex (.seq a b) cx σ=(ex a cx σ).bind λf a0=>goOn f a0 (ex b cx):=rfl;rw[hev]at D |-;refine oM (j9 (Ja W σ s I L (Rs.bind_ne D)) (λf T ⟨v,a0,J,O,u,hv⟩=>?_) (λe s' h=>h.elim));rw[Rs.bind_ok O]at D |-;cases hv with
 |next=>exact j9 (Jb J a0 T u.inv u.l D) (λc s' h=>h.after u) λe s' h=>h.after u
 |brk=>exact⟨_,a0,J,rfl,u,.brk⟩
 |cont=>exact⟨_,a0,J,rfl,u,.cont⟩
 |ret hv=>exact⟨_,a0,J,rfl,u,.ret hv⟩
theorem xM(h:xG e=false)(t:Option Expr)(l:Nat)(env:Env):swapsWith e t l env=pure false:=by cases e <;> first|rfl|exact zT1 h
theorem qBj(L:Loc P env W σ s.heap):interactive env=false:=by unfold interactive;rw[L.kind];rfl
set_option tactic.hygienic true in
theorem qTa(h:Ok e sc (.e v))(h2:xG v=false):zP P (.expr e) sc (.s (.Expr v p)):=λcx C fr A env F S W σ s I L u =>
 wpAny_Expr_any (zO (k:=λq a0=>Rs.ok Fl.next a0) (sound C.base h fr A env F.toFm S).1 I L u (λe s' h=>h) λv c W' σ' s' e st hv=>⟨_,σ',W',Rs.bind_ok e,st,.next⟩) (qBj L) (xM h2 ..)
theorem zX{E:Pv}(F:FmS P cx.lvl fr A env)(I:Inv P fr W σ.h s)(L:Loc P env W σ s.heap)(N:env.kindOf x=some .local)(hv:VR W σ.n v c) 
  (O:∀s',Step P fr env W σ s W (σ.set x v) s'->Q () s'):wpAny P.M A (storeName env x c) Q E s:=ae L.l λm J q=>gK N J (λS D u=>O _ (Step.set I L F.hL hv N J D u rfl rfl)) (by rw[L.kind];rfl)
theorem qVs(I:Inv P fr W σ.h s)(L:Loc P env W σ s.heap)(hL:env.locals∈fr)(e:σ.setC x v=some σ')(hv:VR W σ.n v c):∃k,k<σ.n/\σ.e.lookup x=some k/\((env.kindOf x=some .cell\/env.kindOf x=some .free)->env.cells.lookup x=some (W.ρ k))/\(∃S,s.heap.IsCell (W.ρ k) S) /\
   ∀s':g6,s'.heap.IsCell (W.ρ k) (some c)->lP (W.ρ k) s.heap s'.heap->s'.gens=s.gens->s'.os=s.os->Step P fr env W σ s W σ' s':=by
 refine bC λu=>?_;obtain⟨k,X,hk,N,rfl⟩:=qCi e;obtain⟨p,q⟩:=L.e x k hk;obtain⟨_,U,hg,J⟩:=I.o k _ N;refine u (⟨k,p,hk,q,(by
  cases J with
  |cell hd _=>exact⟨_,_,hg,hd⟩
  |nocell hd=>exact⟨_,_,hg,hd⟩),λs' hc hs F D=>?_⟩)
 refine bC λu=>?_;obtain⟨o,e1,O⟩:=hc;exact u (Step.put I L p hL (.cell (some v)) (.cell O hv) (λb o T e=>(hs.2 b T).trans e) e1 F D)
theorem qEr{E:Pv}(F:FmS P cx.lvl fr A env)(I:Inv P fr W σ.h s)(L:Loc P env W σ s.heap)(e:σ.setC x v=some σ')(J:env.kindOf x=some .cell)(hv:VR W σ.n v c) 
  (N:∀s',Step P fr env W σ s W σ' s'->Q () s'):wpAny P.M A (storeName env x c) Q E s:=by
 obtain⟨k,p,hk,q,⟨O,u⟩,D⟩:=qVs I L F.hL e hv;exact wpAny_storeName_cell L.kind J (q (.inl J)) u λS hc hs=>N _ (D _ hc hs rfl rfl)
set_option genCtorIdx true in
inductive Tgt where
 |l
 |e
noncomputable def Tgt.put(t:Tgt)(σ:St)(x:Str)(v:V):Option St:=match t with| .l=>some (σ.set x v)| .e=>σ.setC x v
noncomputable def Tgt.kind:Tgt->dE
 | .l=>.local
 | .e=>.cell
theorem wP{E:Pv}(t:Tgt)(F:FmS P cx.lvl fr A env)(I:Inv P fr W σ.h s)(L:Loc P env W σ s.heap)(e:t.put σ x v=some σ')(J:env.kindOf x=some t.kind)(hv:VR W σ.n v c) 
  (u:∀s',Step P fr env W σ s W σ' s'->σ'.n=σ.n->Q () s'):wpAny P.M A (storeName env x c) Q E s:=by
 cases t with
 |l=>subst e;exact zX F I L J hv λs' st=>u s' st rfl
 |e =>refine qEr F I L e J hv λs' st=>u s' st (bi (qCi e) λq q q q D=>?_);subst D;rfl
theorem qMe(L:Loc P env W σ s.heap):∃b,swapsWith v (some (.Name x p)) l env=pure b:=by cases v <;> exact⟨_,rfl⟩
set_option tactic.hygienic true in
theorem qAy(C:SxOk P cx)(F:FmS P cx.lvl fr A env)(S:ScOk sc env)(k:Keep)(t:Tgt){cond:X}(hi:Ok it sc (.e i))(h2:Ok elt cs (.e e))(h3:Ok cond cs (.ofCond ifs))(h4:xP y sc cs)(h1:xC i=false)(hx:env.kindOf x=some t.kind)(I:Inv P fr W σ.h s)(L:Loc P env W σ s.heap)(r:Rs Fl)(U:r=(ev cx.c (.comp elt y it cond) σ).bind λu a0=>match u with| .list xs=>kV (t.put (k.st xs a0) x (k.val xs a0))|_=>.bad)(O:r≠.bad):wpAny P.M A (exec (.Assign [.Name x p] (.ListComp e [⟨.Name y zp,i,ifs,0⟩] cs lp) pos) env) (PostF P fr env W σ s r) NoE s:=by
 obtain hne':ev cx.c (.comp elt y it cond) σ≠.bad:=by rw[U]at O;exact Rs.bind_ne O
 obtain hE:∀e s',NoE e s'->NoE e s':=λe s' h=>h;have put:∀{xs:List V}{a0:St},ev cx.c (.comp elt y it cond) σ=.ok (.list xs) a0->∃a7,t.put (k.st xs a0) x (k.val xs a0)=some a7/\r=.ok .next a7:=λ{xs a0} e=>by
  obtain U:=e▸U;have N:r=kV (t.put (k.st xs a0) x (k.val xs a0)):=U;cases hp:t.put (k.st xs a0) x (k.val xs a0)with
  |none=>rw[hp]at N;exact d9 N O
  |some a7=>rw[hp]at N;exact⟨a7,rfl,N⟩
 refine bf (qMe (v:=.ListComp e [⟨.Name y zp,i,ifs,0⟩] cs lp) (x:=x) (p:=p) (l:=pos.line) L) λb Y=>?_;cases b with
 |false =>refine iA ?_ Y;rw[eval_ListComp];refine wY (qLy (kX h4).2) (sound C.base h2) (sound C.base hi) (sound C.base h3) F.toFm S (kX h4).1 h1 I L hne' hE λxs a0 a D aB a9 aG R=>?_;refine bf R.ns λm hm=>⟨m,hm,λh' hs=>?_⟩;refine ae (put (comp_is.trans aG)) λa7 hp bM=>bh ((R.go F.toFm hs).keep k) λZ J aT z=>?_;refine wP t F J.inv J.l hp hx aT λaK T z=>?_;rw[bM];exact⟨_,a7,Z,rfl,J.trans T,.next⟩
 |true =>rw[exec_Assign_Name_used _ _ _ _ Y];refine d8 (eL (d8 (d8 (wY (qLy (kX h4).2) (sound C.base h2) (sound C.base hi) (sound C.base h3) F.toFm S (kX h4).1 h1 I L hne' hE λxs a0 a D aB a9 aG R=>?_))));refine ae (put (comp_is.trans aG)) λa7 hp bM=>?_;refine bh (R.raw.keep k) λZ J aT a2=>bC λn0=>?_;obtain⟨m,⟨oC,es,ep,eC,dC,rC⟩⟩:=R.ns;refine n0 ?_;have oD:=a2 D (fR R.ne) R.outC;refine dI (wP t F J.inv J.l hp hx aT λaK T bX=>?_);refine⟨m,⟨oC,es,ep,(T.nx.ext D oC eC (λq=>R.outC.notFr (q▸F.hL)) R.outC.notFr oD.notOwn),dC,rC⟩,λh' hs=>g7 (g7 ?_)⟩;rw[bM];exact⟨_,a7,Z,rfl,((J.trans T).aside F.hL R.newC (oD.step eC T.nx) (λb o Y e=>(hs.2 b Y).trans e) rfl rfl),.next⟩
set_option tactic.hygienic true in
theorem qVp{cond:X}(h:ev c (.comp elt y it cond) σ=.ok v σ'):∃xs,v=.list xs:=by
 replace h:=comp_is.symm.trans h;unfold qFw at h
 .cases h1:ev c it σ with
  |ok u a0 =>
   rw[h1,Rs.bind_ok rfl]at h;split at h
   .rename_i xs _;cases h2:turns u xs (qFv c elt (zDf y) cond a0.e) xs a0 with
    |ok D a7 =>replace h:=(Rs.bind_ok rfl)▸h2▸h;unfold fits at h;split at h <;> cases h;exact⟨_,rfl⟩
    |bad=>replace h:=h2▸h;cases h
   .cases h
  |bad=>replace h:=h1▸h;cases h
theorem qGf(C:SxOk P cx)(F:FmS P cx.lvl fr A env)(S:ScOk sc env)(t:Tgt)(h:Ok e sc (.e v))(hc:xG v=false)(V:env.kindOf x=some t.kind)(I:Inv P fr W σ.h s)(L:Loc P env W σ s.heap)(D:((ev cx.c e σ).bind λu a0=>kV (t.put a0 x u))≠.bad):wpAny P.M A (exec (.Assign [.Name x p] v pos) env) (PostF P fr env W σ s ((ev cx.c e σ).bind λu a0=>kV (t.put a0 x u))) NoE s:=by
 refine iA (zO (sound C.base h fr A env F.toFm S).1 I L D (λe s' h=>h) λu c U a0 Y T J O=>?_) (xM hc ..);rw[Rs.bind_ok T]at D |-;cases hp:t.put a0 x u with
 |none=>rw[hp]at D;exact d9 rfl D
 |some a7=>exact wP t F J.inv J.l hp V O λZ N q=>⟨_,a7,U,rfl,J.trans N,.next⟩
theorem qYp(h1:sc.names.lookup x=some .local)(h:Ok e sc (.e v))(hc:xG v=false):zP P (.a x e) sc (.s (.Assign [.Name x q] v p)):=
 λcx C fr A env F S W σ s I L u=>qGf C F S .l h hc (S.l x h1) I L u
theorem qTg(h1:sc.names.lookup x=some .cell)(h:Ok e sc (.e v))(hc:xG v=false):zP P (.asgC x e) sc (.s (.Assign [.Name x q] v p)):=
 λcx C fr A env F S W σ s I L u=>qGf C F S .e h hc (S.cell x h1) I L u
theorem qAv(C:SxOk P cx)(F:FmS P cx.lvl fr A env)(S:ScOk sc env)(h:Ok es sc (.es l))(I:Inv P fr W σ.h s)(L:Loc P env W σ s.heap)(u:ev cx.c (.list es) σ≠.bad){Q:Pv}{E:Pv}(T:∀e s',NoE e s'->E e s')(D:∀xs σ' a W' s',ev cx.c (.list es) σ=.ok (.list xs) σ'->Raw P fr env W σ s xs σ' a W' s'->Q (.ref a) s'):wpAny P.M A (eval (.List l p) env) Q E s:=by
 obtain Je:=(sound C.base h fr A env F.toFm S) p;obtain hev:ev cx.c (.list es) σ=(ev cx.c es σ).bind λO a0=>jT O a0 λxs a0=>fits xs.length (.ok (.list xs) a0):=rfl;rw[hev]at u D;refine List_ (jY Je.2.2 I L u T λxs cs W' σ' s' e st hv=>?_);rw[e]at u D;obtain⟨N,r⟩:=qBt u;rw[r]at D;obtain nA:s'.heap.get? s'.heap.objs.size=none:=vP _;refine fQ (D xs σ' _ W' _ rfl ⟨st.trans (Step.push st.inv st.l _ rfl rfl rfl),?_,Out.new st.inv nA,⟨cs.toArray,0,eH _ rfl,by simpa using hv⟩,N⟩) (by show cs.toArray.size<=j0;rw[s8];exact(by rw[hv.length];exact N));cases q:s.heap.get? s'.heap.objs.size with
 |none=>rfl
 |some o=>obtain⟨U,J⟩:=st.nx.live _ _ q;replace J:=nA▸J;cases J
theorem zMn(C:SxOk P cx)(F:FmS P cx.lvl fr A env)(S:ScOk sc env)(t:Tgt)(h:Ok es sc (.es l))(V:env.kindOf x=some t.kind)(I:Inv P fr W σ.h s)(L:Loc P env W σ s.heap)(D:((ev cx.c (.list es) σ).bind λu a0=>ownR u a0 λr a7=>kV (t.put a7 x r))≠.bad):wpAny P.M A (exec (.Assign [.Name x p] (.List l r) pos) env) (PostF P fr env W σ s ((ev cx.c (.list es) σ).bind λu a0=>ownR u a0 λr a7=>kV (t.put a7 x r))) NoE s:=by
 refine iA (qAv C F S h I L (Rs.bind_ne D) (λe s' h=>h.elim) λxs a0 a aB Z T R=>?_) (xM rfl ..);rw[Rs.bind_ok T]at D |-;obtain hr:ownR (.list xs) a0 (λr a7=>kV (t.put a7 x r))=kV (t.put (Keep.owned.st xs a0) x (Keep.owned.val xs a0)):=rfl;rw[hr]at D |-;refine bh (R.keep .owned) λN J O q=>?_;cases hp:t.put (Keep.owned.st xs a0) x (Keep.owned.val xs a0)with
 |none=>rw[hp]at D;exact d9 rfl D
 |some a7=>exact wP t F J.inv J.l hp V O λY U q=>⟨_,a7,N,rfl,J.trans U,.next⟩
theorem qYk(h1:sc.names.lookup x=some .local)(h:Ok es sc (.es l)):zP P (.own x (.list es)) sc (.s (.Assign [.Name x q] (.List l r) p)):=
 λcx C fr A env F S W σ s I L u=>zMn C F S .l h (S.l x h1) I L u
section
variable{sc cs:Scope}{elt it cond:X}{y:Str}{e i:Expr}{ifs:List Expr}{x:Str}{p q zp lp:Pos}(hi:Ok it sc (.e i))(h2:Ok elt cs (.e e))(h3:Ok cond cs (.ofCond ifs))(h4:xP y sc cs=true)(h5:xC i=false)
include hi h2 h3 h4 h5
end
theorem qSw(h1:Ok o sc (.e t))(h2:Ok e sc (.e v))(h3:xG v=false):zP P (.setA o f e) sc (.s (.Assign [.Attribute t f p] v pos)):=by
 intro cx C fr A env F S;intro W σ s I L D;obtain hev:ex (.setA o f e) cx σ=(ev cx.c e σ).bind λv a0=>(ev cx.c o a0).bind λvo a7=>kV ((cx.setA vo f v a7.h).map λH=>{ a7 with h:=H }):=rfl;rw[hev]at D |-;refine plainObj_wpAny_Assign_Attribute (qLx (sound C.base h2 fr A env F.toFm S).1 (sound C.base h1 fr A env F.toFm S).1 I L D (λe s' h=>h) λO a7 aF u w V N aN J U Z=>?_) (xM h3 ..);rw[aN]at D |-;cases hp:cx.setA w f u a7.h with
 |none=>rw[hp]at D;exact d9 rfl D
 |some Hn=>exact C.setA fr A env F.toFm O a7 aF J.inv J.l w f u N V Hn Z U hp _ _ λT aK Y=>⟨_,_,T,rfl,J.trans Y,.next⟩
end
section
variable{P:Par}{fr:Ln}{A:w4}{env:Env}{W W':Wd}{σ σ':St}{s s':g6}{cx:Sx}
theorem zCp(h:condS v σ t e≠.bad):(truV σ.h v=some true/\condS v σ t e=t σ)\/(truV σ.h v=some false/\condS v σ t e=e σ):=by
 unfold condS at h |-;revert h;cases truV σ.h v with
 |none=>exactλh=>d9 rfl h
 |some t=>cases t with
  |true=>exactλq=>.inl ⟨rfl,rfl⟩
  |false=>exactλq=>.inr ⟨rfl,rfl⟩
theorem qRh(h:((ev c e σ).bind λv a0=>condS v a0 t f)≠.bad):tr (ev c e) σ≠.bad:=by
 cases u:ev c e σ with
 |ok v a0 =>rw[u]at h;rw[yB u];rcases zCp (h:condS v a0 _ _≠.bad)with⟨q,_⟩|⟨q,_⟩ <;> rw[zG q] <;> intro D <;> cases D
 |bad=>rw[u]at h;exact d9 rfl h
theorem qYm(h1:Ok c sc (.e t))(N:zP P a sc (.l x))(J:zP P b sc (.l y)):zP P (.ite c a b) sc (.s (.If t x y pos)):=by
 intro cx C fr A env F S;obtain Ja:=N cx C fr A env F S;obtain Jb:=J cx C fr A env F S;intro W σ s I L u;obtain hev:ex (.ite c a b) cx σ=(ev cx.c c σ).bind λv a0=>condS v a0 (ex a cx) (ex b cx):=rfl;rw[hev]at u |-;refine wpAny_If (qCd (sound C.base h1 fr A env F.toFm S).2 I L (qRh u) λbb v σ' W' s' e D st=>?_);rw[Rs.bind_ok e]at u |-;cases bb with
 |true =>rw[d3 rfl];rw[(by unfold condS;rw[D]:condS v σ' (ex a cx) (ex b cx)=ex a cx σ')]at u |-;exact j9 (Ja W' σ' s' st.inv st.l u) (λc s' h=>h.after st) λe s' h=>h.after st
 |false =>rw[zX1];rw[(by unfold condS;rw[D]:condS v σ' (ex a cx) (ex b cx)=ex b cx σ')]at u |-;exact j9 (Jb W' σ' s' st.inv st.l u) (λc s' h=>h.after st) λe s' h=>h.after st
set_option tactic.hygienic true in
theorem qIp(h:Ok e sc (.e t)):zP P (.assert e) sc (.s (.Assert t none pos)):=by
 intro cx C fr A env F S;intro W σ s I L u;obtain hev:ex (.assert e) cx σ=(ev cx.c e σ).bind λv a0=>condS v a0 (λa0=>.ok .next a0) (λq=>.bad):=rfl;rw[hev]at u |-;refine wpAny_Assert_holds (qCd ((sound C.base h fr A env F.toFm S).2) I L (qRh u) λbb v σ' W' s' e D st=>?_);rw[Rs.bind_ok e]at u |-;cases bb with
 |true=>exact⟨rfl,_,σ',W',by unfold condS;rw[D],st,.next⟩
 |false =>exact d9 (by unfold condS;rw[D]) u
theorem qWl(hc:OkB P fr A env (isTrue J env (eval J env)) c)(hb:OkS P fr A env (execs body env) b)(Y:OkS P fr A env (execs D env) o)(n:Nat)(I:Inv P fr W σ.h s)(L:Loc P env W σ s.heap)(F:vE c b o n σ≠.bad):wpAny P.M A (exec (.While J body D pos) env) (PostF P fr env W σ s (vE c b o n σ)) NoE s:=by
 refine wpAny_While ?_;generalize X:vE c b o n σ=r at F;refine codeAny_whileLoop (λk s'=>∃W' σ',Step P fr env W σ s W' σ' s'/\vE c b o k σ'=r) ?_ n ⟨W,σ,Step.refl I L,X⟩;rintro k a9 ⟨aB,a0,a8,u⟩;cases k with
 |zero=>exact d9 (u.symm.trans rfl) F
 |succ k =>
  obtain u:(c a0).bind (λt σ=>if t then(b σ).bind (qAm (vE c b o k))else o σ)=r:=u;refine j9 (hc aB a0 a9 a8.inv a8.l (by intro q;rw[q]at u;exact F u.symm)) (λbb U ⟨a7,T,aN,V⟩=>?_) (λe s' h=>h.elim);rw[aN]at u;have st:=a8.trans V;cases bb with
  |true =>
   rw[d3 rfl];replace u:(b a7).bind (qAm (vE c b o k))=r:=u;refine j9 (hb T a7 U st.inv st.l (by intro q;rw[q]at u;exact F u.symm)) (λf Z ⟨fl,aD,N,aM,O,S⟩=>?_) (λe s' h=>h.elim);rw[aM]at u;cases S with
   |next=>exact⟨k,s9 _,N,aD,st.trans O,u⟩
   |cont=>exact⟨k,s9 _,N,aD,st.trans O,u⟩
   |brk=>exact⟨_,aD,N,u.symm,st.trans O,.next⟩
   |ret hv=>exact⟨_,aD,N,u.symm,st.trans O,.ret hv⟩
  |false =>rw[zX1];replace u:o a7=r:=u;refine j9 (Y T a7 U st.inv st.l (by rw[u];exact F)) (λf Z S=>?_) (λe s' h=>h.elim);refine u▸?_;exact S.after st
theorem qSz(h1:Ok c sc (.e t))(D:zP P b sc (.l x))(J:zP P o sc (.l y)):zP P (.loop n c b o) sc (.s (.While t x y pos)):=
 λcx C fr A env F S W σ s I L u=>qWl (sound C.base h1 fr A env F.toFm S).2 (D cx C fr A env F S) (J cx C fr A env F S) n I L u
inductive EachAt(P:Par)(fr:Ln)(env:Env)(W:Wd)(σ:St)(s:g6)(v:V)(xs:List V)(Ia:Nat)(b:V->St->Rs Fl)(r:Rs Fl)(k:Nat)(s':g6):Prop where
 |mk(W':Wd)(σ':St)(j:Nat)(h1:k=xs.length+1-j)(h2:j<=xs.length)(h3:Step P fr env W σ s W' σ' s')(h4:Out P fr W' σ'.n Ia)(h5:ItAt W' σ'.n s'.heap Ia v j)(h6:eachF v xs b (xs.drop j) σ'=r)
theorem qRd(hh:A.handled=none)(F:FmS P cx.lvl fr A env)(ha:∀W σ s y c,Inv P fr W σ.h s->Loc P env W σ s.heap->VR W σ.n y c->b y σ≠.bad->∀(Q:Unit->g6->Prop)(E:Pv),(∀s' σ',Step P fr env W σ s W σ' s'->σ'.n=σ.n->b y σ=b' σ'->Q () s')->wpAny P.M A (assign tg env c) Q E s)(ab:∀(s:g6)(σ:St)(W:Wd)(n:Nat)(u v:V)(i Ia:Nat)(c:j7)(Q:Unit->g6->Prop)(E:Pv),ItAt W n s.heap Ia v i->b u σ≠.bad->VR W σ.n u c->Q () s->wpAny P.M A (letOwnedTupleGo tg (.ref Ia) c) Q E s)(U:OkS P fr A env (execs body env) b')(hv:VR W σ.n v cv)(I:Inv P fr W σ.h s)(L:Loc P env W σ s.heap)(N:eachF v xs b xs σ≠.bad){E:Pv}:wpAny P.M A (pyIter cv) (λit aF=>codeAny P.M A (.forLoop tg it body [] env) (λr s'=>match r with| .ok f=>PostF P fr env W σ s (eachF v xs b xs σ) f s'| .error e=>cameBackBy P.M A env E e s') aF) E s:=by
 obtain hits:=qKn N;generalize hr:eachF v xs b xs σ=r at N;refine qDh I hv hits λob a1=>?_;obtain nI:s.heap.get? s.heap.objs.size=none:=vP _;obtain oI:Out P fr W σ.n s.heap.objs.size:=Out.new I nI;generalize au:s.heap.objs.size=Ia at a1 nI oI;refine codeAny_forLoop_any (EachAt P fr env W σ s v xs Ia b r) ?_ (xs.length+1) ⟨W,σ,0,rfl,v0 _,(Step.push I L _ rfl rfl rfl:Step P fr env W σ s W σ { s with heap:=s.heap.push ob }),oI,a1,hr⟩;rintro k a9 ⟨aB,a0,j,rfl,hj,a8,b9,bZ,D⟩;have Y:itsV a0.h v=some xs:=qKn (b:=b) (l:=xs.drop j) (by rw[D];exact N);cases J:xs[j]? with
 |none =>rw[(lQ (List.getElem?_eq_none_iff.mp J):xs.drop j=[])]at D;rw[qKo Y]at D;refine qJx hh a8.inv bZ Y J λh' hk=>wpAny_execs_nil ?_;refine⟨_,a0,aB,D.symm,a8.aside F.hL nI b9 (λb o U e=>hk b o U e) rfl rfl,.next⟩
 |some y =>
  obtain hlt:j<xs.length:=(List.getElem?_eq_some_iff.mp J).1;replace D:=(by
   rw[dM hlt,(List.getElem?_eq_some_iff.mp J).2]:xs.drop j=y::xs.drop (j+1))▸D
  rw[qRc Y]at D;refine qFj a8.inv bZ Y J λc aX bK a2 b8 aZ=>?_;have aA:Step P fr env W σ s aB a0 { a9 with heap:=aX,toks:=bK }:=a8.aside F.hL nI b9 (λb o U e=>(aZ.2 b U).trans e) rfl rfl;have O:b y a0≠.bad:=by intro q;rw[q]at D;exact N D.symm
  refine ab _ a0 aB _ y v (j+1) Ia c _ _ b8 O a2 ?_;refine ha aB a0 _ y c aA.inv aA.l a2 O _ _ λaK a7 Z en eb=>?_;rw[eb]at D O;obtain cL:=aA.trans Z;obtain⟨cY,cZ⟩:=b8.there;have a3:Ia≠env.locals:=λq=>b9.notFr (q▸F.hL);have bN:Out P fr aB a7.n Ia:=by rw[en];exact b9
  have c0:ItAt aB a7.n aK.heap Ia v (j+1):=b8.mono (.refl ..) (v6 en.symm) λo e=>Z.nx.ext Ia o e a3 b9.notFr b9.notOwn;refine j9 (U aB a7 aK Z.inv Z.l O) (λf aR ⟨fl,aP,T,aU,S,hf⟩=>?_) (λe s' h=>h.elim);rw[aU]at D;obtain⟨d0,cM⟩:=c0.there;have X:=cL.trans S;obtain c9:=bN.step cM S.nx;obtain cA:ItAt T aP.n aR.heap Ia v (j+1):=c0.mono S.nx.wle S.nx.le λo e=>S.nx.ext Ia o e a3 bN.notFr bN.notOwn;cases hf with
  |next=>exact⟨xs.length+1-(j+1),dt hj,T,aP,j+1,rfl,hlt,X,c9,cA,D⟩
  |cont=>exact⟨xs.length+1-(j+1),dt hj,T,aP,j+1,rfl,hlt,X,c9,cA,D⟩
  |brk=>exact⟨_,aP,T,D.symm,X,.next⟩
  |ret hv=>exact⟨_,aP,T,D.symm,X,.ret hv⟩
set_option tactic.hygienic true in
theorem qTb{V:Pos}(h1:sc.names.lookup x=some .local)(h2:Ok it sc (.e i))(T:zP P b sc (.l z))(h4:xC i=false):zP P (.each x it b) sc (.s (.For (.Name x V) i z [] pos)):=by
 intro cx C fr A env F S;intro W σ s I L D;obtain hev:ex (.each x it b) cx σ=(ev cx.c it σ).bind λv a0=>match itsV a0.h v with
   |some xs=>eachF v xs (λu σ=>ex b cx (σ.set x u)) xs a0
   |none=>.bad:=rfl
 rw[hev]at D |-;refine wpAny_For (zO (sound C.base h2 fr A env F.toFm S).1 I L D (λe s' h=>h) λv cv aB a0 a9 Y J hv=>?_) (qHe h4);rw[Rs.bind_ok Y]at D |-;revert D;split <;> intro D
 .rename_i xs Z;refine j9 (qRd (E:=NoE) F.handled F (λW σ s y c I L O q Q E U=>dI (zX F I L (S.l x h1) O λs' st=>U s' _ st rfl rfl)) (λs σ W n u v i Ia c Q E q q q h=>g7 h) (T cx C fr A env F S) hv J.inv J.l D) (λit aF h=>oY h λr s' N=>?_) λq q e=>e;cases r with
  |ok f=>exact PostF.after J N
  |error e=>exact N
 .exact d9 rfl D
set_option tactic.hygienic true in
theorem qMk(h1:sc.names.lookup x=some .cell)(h2:Ok it sc (.e i))(U:zP P b sc (.l z))(h4:xC i=false):zP P (.eachC x it b) sc (.s (.For (.Name x Y) i z [] pos)):=by
 intro cx C fr A env F S;intro W σ s I L D;obtain hev:ex (.eachC x it b) cx σ=(ev cx.c it σ).bind λv a0=>match itsV a0.h v with
   |some xs=>eachF v xs (λu σ=>match σ.setC x u with|some σ'=>ex b cx σ'|none=>.bad) xs a0
   |none=>.bad:=rfl
 rw[hev]at D |-;refine wpAny_For (zO (sound C.base h2 fr A env F.toFm S).1 I L D (λe s' h=>h) λv cv aB a0 a9 Z J hv=>?_) (qHe h4);rw[Rs.bind_ok Z]at D |-;revert D;split <;> intro D
 .rename_i xs a1;refine j9 (qRd (E:=NoE) F.handled F (λW σ s y c I L T D Q E V=>by
   cases hc:σ.setC x y with
   |none=>exact d9 (by rw[hc]) D
   |some σ'=>exact dI (qEr F I L hc (S.cell x h1) T λs' st=>V s' σ' st (by refine bi (qCi hc) λq q q q N=>?_;subst N;rfl) (by rw[hc]))) (λs σ W n u v i Ia c Q E q q q h=>g7 h) (U cx C fr A env F S) hv J.inv J.l D) (λit aF h=>oY h λr s' O=>?_) λq q e=>e
  cases r with
  |ok f=>exact PostF.after J O
  |error e=>exact O
 .exact d9 rfl D
theorem qHc(h:jR v k≠.bad):∃a b,qCs v=some [a,b]/\jR v k=k a b:=by
 unfold jR at h |-;revert h;cases qCs v with
 |none=>exactλh=>d9 rfl h
 |some l=>cases l with
  |nil=>exactλh=>d9 rfl h
  |cons a r=>cases r with
   |nil=>exactλh=>d9 rfl h
   |cons b r=>cases r with
    |nil=>exactλq=>⟨a,b,rfl,rfl⟩
    |cons=>exactλh=>d9 rfl h
theorem qHd(H:A.handled=none)(I:Inv P fr W σ.h s)(L:Loc P env W σ s.heap){v a b:V}{c:j7}(h:VR W σ.n v c)(e:qCs v=some [a,b]):∃t D u,c=.ref t/\VR W σ.n a D/\VR W σ.n b u /\
  ∀{E:Pv}{Q:Lv->g6->Prop},(∀s',Step P fr env W σ s W σ s'->Q [D,u] s')->wpAny P.M A (unpackItems (.ref t) 2 none) Q E s:=by
 have J:=h.dat;clear h;cases v with
 |tup =>refine dc J λt o items S F h1 h2 h3 h4 h5=>?_;subst F;refine bC λT=>?_;subst e;obtain⟨l⟩:=items;refine T (bi (VRs.inv2 h5) λD u e2 x y=>?_);have N:l=[D,u]:=e2;subst N;exact⟨t,D,u,rfl,x,y,λO=>wpAny_unpackItems_tuple H (items:=#[D,u]) ⟨o,(I.frz _ _ h1).1,h2,S,h3⟩ λJ U=>O _ (Step.grow I L (λb o e=>U b o (n3 (rJ e)) e) rfl rfl)⟩
 |_=>exact zN1 e
set_option tactic.hygienic true in
theorem qPb(F:FmS P cx.lvl fr A env)(hx:env.kindOf x=some .local)(hy:env.kindOf y=some .local)(J:OkE P fr A env (eval v env) f)(Y:swapsWithSole [.Tuple [.Name x U,.Name y N] k q] v p.line env=pure false)(hw:swappedStores [.Tuple [.Name x U,.Name y N] k q] v env=pure none):OkS P fr A env (exec (.Assign [.Tuple [.Name x U,.Name y N] k q] v p) env) (λσ=>(f σ).bind λv a0=>jR v λa b=>.ok .next ((a0.set x a).set y b)):=by
 intro W σ s I L D;refine Assign_Tuple (zO J I L D (λe s' h=>h) λu c aB a0 a9 Z S hv=>?_) Y hw;dsimp only at D;rw[Rs.bind_ok Z]at D;refine bp (qHc D) λa b hp hr=>bw (qHd F.handled S.inv S.l hv hp) λt ca cb X ha a1 hU=>?_;subst X;rw[assign_Tuple];refine d8 (eL (d8 (r9 (hU λaF O=>?_))));refine d8 (r9 (dI (zX F O.inv O.l hx ha λaK T=>d8 (r9 (dI (zX F T.inv T.l hy a1 λaR aO=>?_))))));exact g7 ⟨_,_,aB,(Rs.bind_ok (f:=λv a0=>jR v λa b=>Rs.ok Fl.next ((a0.set x a).set y b)) Z).trans hr,((S.trans O).trans T).trans aO,.next⟩
theorem qTh(h1:sc.names.lookup x=some .local)(h2:sc.names.lookup y=some .local)(h:Ok e sc (.e (.Call g as u r))):zP P (.asg2 x y e) sc (.s (.Assign [.Tuple [.Name x I,.Name y D] k q] (.Call g as u r) p)):=λcx C fr A env F S =>
 qPb F (S.l x h1) (S.l y h2) (sound C.base h fr A env F.toFm S).1 (by rfl) rfl
theorem Step.swap(D:x≠y)(st:Step P fr env W σ s W' ((σ'.set y b).set x a) s'):Step P fr env W σ s W' ((σ'.set x a).set y b) s':=by
 refine⟨st.nx,st.inv,⟨st.l.kind,st.l.g,st.l.bns,?_,st.l.e⟩⟩;refine ae st.l.l λm h1 h2=>⟨m,h1,λz v F=>h2 z v ?_⟩;have u:(yG y b (yG x a σ'.l)).lookup z=some v:=F;show(yG x a (yG y b σ'.l)).lookup z=some v;rw[lookup_setL,lookup_setL]at u |-;by_cases h1:z=x
 .subst h1;refine ax rfl ?_;rw[b6 D,d3 rfl]at u;exact u
 .refine bc h1 ?_;by_cases h2:z=y
  .rw[d3 h2]at u |-;exact u
  .rw[b6 h2]at u |-;rw[b6 h1]at u;exact u
theorem qMf{S:Nat}(F:qGp a b)(h4:x≠y)(h5:u.line=D.line)(L:env.blockKind=.function)(V:env.kindOf x=some .local)(T:env.kindOf y=some .local):swappedStores [.Tuple [.Name x u,.Name y D] k q] (.Tuple [a,b] S r) env=pure (some [x,y]):=by
 unfold qGp at F;simp only[i6,fE]at F;refine bC λU=>?_;obtain⟨⟨⟨J,O⟩,I⟩,N⟩:=F;refine U ?_;obtain hdup:([x,y]:List Str).eraseDups.length=2:=by simp[List.eraseDups_cons,(by simpa using fR h4)]
 obtain k0:(env.kindOf x==some NameKind.local&&u.line==u.line)=true:=by rw[V];simp
 obtain k1:(env.kindOf y==some NameKind.local&&D.line==u.line)=true:=by rw[T];simp[h5]
 have hm:∀g:Expr->Option Str,g (.Name x u)=some x->g (.Name y D)=some y->[pV x u,.Name y D].filterMap g=[x,y]:=λg e1 e2=>by rw[oA e1,oA e2];rfl
 obtain any:∀g:Expr->Bool,g a=false->g b=false->¬([a,b].any g=true):=λg e1 e2=>by show¬((g a||(g b||false))=true);rw[e1,e2];decide
 have all:∀g:Expr->Bool,(g a&&g b)=false->¬([a,b].all g=true):=λg e=>by show¬((g a&&(g b&&true))=true);rw[oB,e];decide
 delta swappedStores;refine L.symm▸?_;refine(b6 (λq=>Bool.noConfusion (q))).trans ((b6 (any _ J O)).trans ?_);dsimp only;rw[hm _ (d3 k0) (d3 k1),hdup];exact(b6 (λq=>Bool.noConfusion (q))).trans ((b6 (all _ I)).trans (b6 (all _ N)))
set_option tactic.hygienic true in
theorem qHx(F:FmS P cx.lvl fr A env)(hx:env.kindOf x=some .local)(hy:env.kindOf y=some .local)(Z:x≠y)(J:OkE P fr A env (eval v env) f)(Y:swapsWithSole [.Tuple [.Name x U,.Name y N] k q] v p.line env=pure false)(hw:swappedStores [.Tuple [.Name x U,.Name y N] k q] v env=pure (some [x,y])):OkS P fr A env (exec (.Assign [.Tuple [.Name x U,.Name y N] k q] v p) env) (λσ=>(f σ).bind λv a0=>jR v λa b=>.ok .next ((a0.set x a).set y b)):=by
 intro W σ s I L D;refine Assign_Tuple_swapped (names:=[x,y]) (zO J I L D (λe s' h=>h) λu c aB a0 a9 aG S hv=>?_) Y hw;dsimp only at D;rw[Rs.bind_ok aG]at D;refine bp (qHc D) λa b hp hr=>?_;refine bw (qHd F.handled S.inv S.l hv hp) λt ca cb X ha a2 hU=>?_;subst X;refine hU λaF O=>?_;refine d8 (r9 (bindName_ (zX F O.inv O.l hy a2 λaK T=>?_)));refine d8 (r9 (bindName_ (zX F T.inv T.l hx ha λaR aO=>?_)));exact g7 ⟨_,_,aB,(Rs.bind_ok (f:=λv a0=>jR v λa b=>Rs.ok Fl.next ((a0.set x a).set y b)) aG).trans hr,Step.swap Z (((S.trans O).trans T).trans aO),.next⟩
theorem qMm(h1:sc.names.lookup x=some .local)(h2:sc.names.lookup y=some .local)(h:Ok e sc (.e (.Tuple [a,b] D r)))(O:qGp a b)(h4:(x != y&&N.line==u.line)):zP P (.asg2 x y e) sc (.s (.Assign [.Tuple [.Name x N,.Name y u] k q] (.Tuple [a,b] D r) p)):=by
 intro cx C fr A env F S;simp only[i6,oX,w6]at h4;intro W σ s I L J;exact qHx F (S.l x h1) (S.l y h2) h4.1 (sound C.base h fr A env F.toFm S).1 (by unfold swapsWithSole;rfl) (qMf O h4.1 h4.2 (by unfold Env.blockKind;rw[L.kind];rfl) (S.l x h1) (S.l y h2)) W σ s I L J
def qHa(cx:Sx)(o:X)(f:Str)(v:V)(σ:St):Rs Fl:=(ev cx.c o σ).bind λvo a7=>kV ((cx.setA vo f v a7.h).map λH=>{ a7 with h:=H })
set_option tactic.hygienic true in
theorem qGz(C:SxOk P cx)(F:FmS P cx.lvl fr A env)(S:ScOk sc env)(h1:Ok o sc (.e t))(I:Inv P fr W σ.h s)(L:Loc P env W σ s.heap)(hv:VR W σ.n v c)(u:qHa cx o f v σ≠.bad) 
  (J:∀W' σ' s',qHa cx o f v σ=.ok .next σ'->Step P fr env W σ s W' σ' s'->Q () s'):wpAny P.M A (assign (.Attribute t f p) env c) Q NoE s:=by
 unfold qHa at u J;rw[PySem.assign_Attribute];refine d8 (r9 (zO (sound C.base h1 fr A env F.toFm S).1 I L u (λe s' h=>h) λvo U aB a0 a9 Y D N=>?_));rw[Rs.bind_ok Y]at u J;refine d8 (eL (d8 (r9 ?_)));cases hp:cx.setA vo f v a0.h with
 |none=>rw[hp]at u;exact d9 rfl u
 |some Hn =>rw[hp]at J;exact C.setA fr A env F.toFm aB a0 a9 D.inv D.l vo f v U c Hn N (hv.mono D.nx.wle D.nx.le) hp _ _ λO T Z=>wpAny_release' (J O _ T rfl (D.trans Z))
set_option tactic.hygienic true in
theorem qTe(h1:sc.names.lookup x=some .local)(h2:sc.names.lookup y=some .local)(h:Ok e sc (.e v)):zP P (.asgs x y e) sc (.s (.Assign [.Name x Z,.Name y T] v p)):=by intro cx C fr A env F S W σ s I L D;obtain hev:ex (.asgs x y e) cx σ=(ev cx.c e σ).bind λv a0=>.ok .next ((a0.set x v).set y v):=rfl;rw[hev]at D |-;refine wpAny_Assign_two (zO (sound C.base h fr A env F.toFm S).1 I L D (λe s' h=>h) λu c Y a0 a9 U N O=>?_);rw[Rs.bind_ok U];refine dI (zX F N.inv N.l (S.l x h1) O λaF J=>?_);exact dI (zX F J.inv J.l (S.l y h2) O λaK V=>⟨_,_,Y,rfl,(N.trans J).trans V,.next⟩)
theorem qSy(h1:sc.names.lookup x=some .local)(h2:Ok o sc (.e t))(h:Ok es sc (.es l)):zP P (.ownA o f x (.list es)) sc (.s (.Assign [.Attribute t f aI,.Name x Y] (.List l r) p)):=by
 intro cx C fr A env F S W σ s I L D;obtain hev:ex (.ownA o f x (.list es)) cx σ=(ev cx.c (.list es) σ).bind λv a0=>ownR v a0 λr a7=>(ev cx.c o a7).bind λvo aD=>kV ((cx.setA vo f r aD.h).map λH=>({ aD with h:=H }:St).set x r):=rfl;rw[hev]at D |-;refine wpAny_Assign_two (qAv C F S h I L (Rs.bind_ne D) (λe s' h=>h.elim) λxs a0 a aB a9 aG R=>?_);rw[Rs.bind_ok aG]at D |-;refine bh (R.keep .owned) λU aA aT z=>?_;have hr:∀k,ownR (.list xs) a0 k=k (.ref a0.n) (a0.add (.list xs)):=λk=>rfl;rw[hr]at D |-;have V:VR U (a0.add (.list xs)).n (.ref a0.n) (.ref a):=aT;have O:Step P fr env W σ s U (a0.add (.list xs)) a9:=aA;refine qGz C F S h2 O.inv O.l V (λq=>D (by
  cases J:ev cx.c o (a0.add (.list xs))with
  |bad=>rfl
  |ok vo aD =>
   replace q:=(Rs.bind_ok J).symm.trans q
   show kV ((cx.setA vo f (.ref a0.n) aD.h).map λH=>({ aD with h:=H }:St).set x (.ref a0.n))=.bad
   cases hp:cx.setA vo f (.ref a0.n) aD.h with
   |none=>rfl
   |some H=>rw[hp]at q;cases q)) λaL aD aK u N=>?_
 refine dI (zX F N.inv N.l (S.l x h1) (V.mono N.nx.wle N.nx.le) λaR Z=>?_);refine⟨_,_,aL,?_,(O.trans N).trans Z,.next⟩;unfold qHa at u;cases J:ev cx.c o (a0.add (.list xs))with
 |bad=>replace u:=J▸u;cases u
 |ok vo T =>
  replace u:=(Rs.bind_ok J).symm.trans u;show kV ((cx.setA vo f (.ref a0.n) T.h).map λH=>({ T with h:=H }:St).set x (.ref a0.n))=_;cases hp:cx.setA vo f (.ref a0.n) T.h with
  |none=>replace u:=hp▸u;cases u
  |some H=>rw[hp]at u;cases u;rfl
theorem VRs.dropLast(h:VRs W n xs cs):VRs W n xs.dropLast cs.dropLast:=by rw[lW,lW,h.length];exact h.take _
theorem qYu(n:Nat):seqIndex? (-1) (n+1)=some n:=by unfold seqIndex?;rw[(by refine ax pi ?_;simp +arith:(if(-1:Int)<0 then(-1:Int)+((n+1:Nat):Int)else -1)=(n:Int))];exact(d3 (by rw[i6];exact⟨e9 (u0 n),e9 (by simp +arith)⟩)).trans (g0 some (dH _))
theorem qTc(h:(zF x&&sc.names.lookup x==some .local)):zP P (.delL x) sc (.s (.Delete [.Subscript (.Name x q) (.UnaryOp .USub (.Constant (.int 1) k bG) bH) bI] p)):=by
 intro cx C fr A env F S W σ s I L a2;have D:qVn x σ≠.bad:=a2;show wpAny _ _ _ (PostF P fr env W σ s (qVn x σ)) _ _;unfold qVn at D |-;obtain⟨⟨j,zs⟩,e0⟩:=qU D;obtain⟨v,hl,Z⟩:=pz e0;obtain⟨rfl,Y⟩:=vR Z;rw[e0]at D |-;cases zs with
 |nil=>exact d9 rfl D
 |cons y ys =>
 obtain D:=()
 have e1:ev cx.c (.v x) σ=.ok (.ref j) σ:=by show(match σ.l.lookup x with|some v=>Rs.ok v σ|Option.none=>.bad)=_;rw[hl]
 obtain e2:∀σ,ev cx.c (.neg (.int 1)) σ=.ok (.int (-1)) σ:=λσ=>rfl;refine wpAny_Delete (wpAny_deleteEach_cons ?_);rw[arm_delete_Subscript];refine d8 (j9 ((sound C.base (.v h) fr A env F.toFm S).1 W σ s I L (by rw[e1];nofun)) (λd4 a9 ⟨d5,a0,aB,O,U,cN⟩=>?_) λe s' h=>h.elim);rw[e1]at O;injection O with O h_;subst O h_
 refine d8 (r9 (j9 ((sound C.base (.neg .int) fr A env F.toFm S).1 aB σ a9 U.inv U.l (by rw[e2];nofun)) (λd6 aF ⟨d7,a7,aH,N,J,aT⟩=>?_) λe s' h=>h.elim));rw[e2]at N;injection N with N h_;subst N h_
 obtain⟨rfl,hk⟩:=cN.inv_ref;obtain⟨u,rfl⟩:=aT.inv_int;obtain⟨_,ob,hg,hr⟩:=J.inv.o j _ Y;refine bi hr.inv_list λitems e V r z=>?_;subst V;have T:items.size=ys.length+1:=by have:=r.length;rw[h9]at this;exact this
 rw[((J.nx.wle.ρ j hk).symm)];refine d8 (eL (d8 (r9 (delItem_at (n:=e) hg pi (by rw[T];exact qYu _) (λh' hs a1=>wpAny_release (wpAny_deleteEach_nil ?_)) z))));have X:(items.toList.eraseIdx ys.length).toArray.toList=items.toList.dropLast:=by
  obtain hl':items.toList.length=ys.length+1:=by rw[h9];exact T
  rw[lW,hl',gI,List.eraseIdx_eq_take_drop_succ,lQ (by rw[hl'];exact i5 _),eF]
 exact⟨_,_,aH,rfl,(U.trans J).trans (Step.put J.inv J.l (k:=j) (s':={ aF with heap:=h' }) (J.inv.o j _ Y).1 F.hL (.list (y::ys).dropLast) (.list (items:=(items.toList.eraseIdx ys.length).toArray) (e:=e+1) (by rw[X];exact r.dropLast) (by
  rw[s8];exact b7 (List.length_eraseIdx_le _ _) (by rw[h9];exact z))) (λb o hb e'=>(hs.2 b hb).trans e') a1 rfl rfl),.next⟩
theorem qMj(h1:Ok o sc (.e t))(h2:Ok N sc (.e t'))(h:Ok e sc (.e (.Tuple [a,b] Z r))):zP P (.setA2 o f N J e) sc (.s (.Assign [.Tuple [.Attribute t f aI,.Attribute t' J aJ] k q] (.Tuple [a,b] Z r) p)):=by
 intro cx C fr A env F S W σ s I L D;have V:ex (.setA2 o f N J e) cx σ=(ev cx.c e σ).bind λv a0=>jR v λa b=>(qHa cx o f a a0).bind λz aD=>qHa cx N J b aD:=by show(ev cx.c e σ).bind _=_;congr 1;funext v a0;congr 1;funext a b;unfold qHa;cases ev cx.c o a0 <;> rfl
 rw[V]at D |-;refine Assign_Tuple (zO (sound C.base h fr A env F.toFm S).1 I L D (λe s' h=>h) λu c aB a0 a9 aG U hv=>?_) (by rfl) (by
  delta swappedStores
  dsimp only
  split
  .rfl
  .split
   .rfl
   .rfl)
 replace D:=(Rs.bind_ok aG)▸D;obtain hb:=Rs.bind_ok (f:=λv a0=>jR v λa b=>(qHa cx o f a a0).bind λz aD=>qHa cx N J b aD) aG;refine bp (qHc D) λva vb hp hr=>?_;rw[hr]at D hb;refine bw (qHd F.handled U.inv U.l hv hp) λtt ca cb Y ha a2 hU=>?_;subst Y;rw[assign_Tuple];refine d8 (eL ?_);refine d8 (r9 (hU λaF T=>?_));refine d8 (r9 (qGz C F S h1 T.inv T.l ha (Rs.bind_ne D) λaL aD aK aM O=>?_));rw[Rs.bind_ok aM]at D hb;refine d8 (r9 (qGz C F S h2 O.inv O.l (a2.mono O.nx.wle O.nx.le) D λaS aP aR aU aO=>?_));exact g7 ⟨_,_,aS,hb.trans aU,((U.trans T).trans O).trans aO,.next⟩
end
theorem zBf:builtinKind "dict.__getitem__"=some .method:=pw
theorem qSs:splitId "dict.__getitem__"=some ("dict","__getitem__"):=pw
theorem qOp{E:Pv}{rest:Lv} 
  (hk:builtinKind i=some .method)(hs:splitId i=some (owner,n))(hi:Looks M s.heap (isInstance self (.type owner)) true)(D:argsOk i ⟨self::rest,kw⟩)(q:Q () s):wpAny M A (checkBuiltinCall i ⟨self::rest,kw⟩) Q E s:=by
 simp only[checkBuiltinCall,hk,hs];refine d8 (hi.here ?_);cases u:iR i with
 |none=>exact g7 q
 |some F =>simp only[argsOk,u]at D;exact cB D q
section
variable{prog:iY}{w:World}{A:w4}{E:Pv}{s:g6}{K:Frag}{C d:Addr}{f:Nat->Nat}
theorem qXk(T:TabOk K C d f)(X:K.In s.heap){c:Nat}(hc:c<128){t:Tok}{Q:Option j7->g6->Prop}(J:∀u,Q (some (.int (f c:Nat) u)) { s with toks:=s.toks+1 }):wpAny (model prog w) A (dictGet d (.int c t)) Q E s:=by
 refine dh T.o λo es N I q hd hk hv=>bC λL=>?_;obtain⟨u,D⟩:=hv c hc;refine L ?_;obtain ho':=X _ _ I;try with_reducible refine r9 ?_
 refine d8 (wpAny_pyHash_int (d8 (wpAny_dictFind_int (s:={ s with toks:=s.toks+1 }) ho' hd hk ?_)));rw[findBy_of_findIdx?]at D;cases hi:es.findIdx? λe=>nR c e.key with
 |none=>replace D:=hi▸D;cases D
 |some i =>rw[hi]at D;refine d8 (wpAny_dictEntries (s:={ s with toks:=s.toks+1 }) ho' hd (g7 ?_));have F:es[i]?.map (·.val)=some (.int (f c:Nat) u):=D;rw[F];exact J u
theorem qIk(T:TabOk K C d f)(X:K.In s.heap)(hc:c<128){Q:Pv}(I:∀u,Q (.int (f c:Nat) u) { s with toks:=s.toks+1 }):wpAny (model prog w) A (getItem (.ref d) (.int c t)) Q E s:=by
 refine cm T.o λo es J F D q=>?_;obtain LT:Looks (model prog w) s.heap (typeOf (.ref d)) (.ref C):=looks_typeIn X (by show(K.lookup d).map (·.cls)=_;rw[F];exact g0 some D);unfold getItem;try with_reducible refine r9 (d8 ?_)
 refine d8 (LT.here (d8 ((anyM_none (l:=seqItemTypes) X (by
  rw[show seqItemTypes=["collections.deque"]from rfl,dS,T.seq,List.all_nil];decide)).here (g7 (d8 ?_)))))
 unfold callSpecial? specialOf;refine d8 (d8 (LT.here ((looks_findIn X T.get).here (r9 (d8 ?_)))));rw[PySem.slot_dict_getitem.bind];refine g7 (d8 (mX (mH PySem.slot_dict_getitem.plain PySem.entry_dict_getitem (qOp (i:="dict.__getitem__") (self:=.ref d) (rest:=[.int c t]) (kw:=[]) (owner:="dict") (n:="__getitem__") zBf qSs (looks_instIn X (by
  show((K.lookup d).map (·.cls)).bind _=_
  rw[F]
  show subIn K o.cls _=_
  rw[D]
  exact T.sub)) (PySem.args_dict_getitem (.ref d) (.int c t)) ?_))))
 show wpAny _ _ (dictGet d (.int c t) >>=_) _ _ s;exact d8 (qXk T X hc λu=>g7 (g7 (g7 (I u))))
end
def TrI(f:Nat->Nat)(s:g6)(all:Ln)(rest:Ln)(b:List Str×Nat×Bool×List (Nat×Option Nat)×Bool)(s':g6):Prop :=
 ∃u,all=u++rest/\b.1=(u.map λc=>({ cps:=#[f c] }:Str)).reverse/\b.2.1=u.length/\b.2.2.1=true/\(∀c a,b.2.2.2.1.lookup c=some a->a=some (f c))/\∃k,s.toks<=k/\s'={ s with toks:=k }
theorem qIh(f:Nat->Nat):∀(l:Ln)(a:Array Nat),(l.map λc=>({ cps:=#[f c] }:Str)).foldl (λacc p=>acc++p.cps) a=a++(l.map f).toArray:=by
 intro D;induction D with
 |nil=>intro a;rfl
 |cons c l u =>intro a;simp only[fX,pB,u,fX];apply Array.toList_inj.mp;simp
theorem zEj(f:Nat->Nat)(l:Ln):(l.map λc=>({ cps:=#[f c] }:Str)).foldl (λacc p=>acc++p.cps) #[]=(l.map f).toArray:=by rw[qIh];simp
section
variable{prog:iY}{w:World}{A:w4}{E:Pv}{s:g6}{K:Frag}{C d:Addr}{f:Nat->Nat}
theorem qMb(T:TabOk K C d f)(X:K.In s.heap)(hc:c<128)(D:Q (.char (f c)) { s with toks:=s.toks+2 }):wpAny (model prog w) A (Builtin.Str.tableLookup (.ref d) c) Q E s:=by refine d8 (wpAny_attempt (d8 (wpAny_mkInt (qIk T (s:={ s with toks:=s.toks+1 }) X hc λu=>d8 (cB (a:=some ((f c:Nat):Int)) rfl ?_)))));dsimp only;rw[b6 (by simp;exact Int.ofNat_le.mpr (bk (T.low c hc)))];exact g7 D
set_option tactic.hygienic true in
theorem qCb(T:TabOk K C d f)(X:K.In s.heap)(Z:∀c∈x.cps.toList,c<128)(S:x.length<=j0)(h0:x.length=0->Q (.done (.ret (.str x t))) s)(h1:0<x.length->∀k,s.toks<=k->Q (.done (.ret (.str (trText f x) k))) { s with toks:=k+1 }):wpAny (model prog w) A (Builtin.«str.translate» ⟨[.str x t,.ref d],[]⟩) Q E s:=by
 unfold Builtin.«str.translate»;refine d8 (cB (a:=(.str x t,x,.ref d)) rfl ?_);by_cases N:x.length=0
 .exact wpAny_ite_true (e9 (beq_iff_eq.mpr N)) (d8 (rA (g7 (h0 N))))
 .refine pC (k9 λq=>N (beq_iff_eq.mp q)) (d8 (j9 (Q:=λb s'=>TrI f s x.cps.toList [] b s') ?_ ?_ λy y z=>z))
  .refine lJ _ (TrI f s x.cps.toList) _ ?_ (λb s' h=>h) x.cps _ ⟨[],rfl,rfl,rfl,(by
   rw[Array.all_eq_true']
   intro c hc
   exact e9 (Z c (Array.mem_toList_iff.mpr hc))),(λy y e=>nomatch e),s.toks,i5 _,rfl⟩
   rintro c rest ⟨ps,n,O,u,J⟩ s' ⟨F,e1,rfl,rfl,rfl,h5,k,hk,rfl⟩;obtain hc:=Z c (by rw[e1];simp);have I:∀(U:List (Nat×Option Nat)) L,s.toks<=L->(∀c a,U.lookup c=some a->a=some (f c)) ->
     TrI f s x.cps.toList rest (({ cps:=#[f c] }:Str)::(F.map λc=>({ cps:=#[f c] }:Str)).reverse,F.length+1,true,U,J) { s with toks:=L }:=λU L V Y =>
    ⟨F++[c],by rw[e1];simp,by simp,by simp,rfl,Y,L,V,rfl⟩
   refine pC (k9 (by unfold iT;simpa using(jh S (by rw[e1];simp:x.cps.toList.length=F.length+(rest.length+1)) h9))) (wpAny_ite_true (e9 rfl) ?_);cases D:u.lookup c with
   |some a =>obtain rfl:=h5 _ _ D;exact d8 (g7 (g7 (I u k hk h5)))
   |none =>
    refine d8 (qMb T (s:={ s with toks:=k }) X hc ?_);dsimp(config:={ zeta:=false })only;refine(d3 (T.low c hc)).symm▸?_;refine d8 (g7 (g7 (I _ (k+2) (b7 hk (n5 _ 2)) ?_)));intro c' a D;rw[iO]at D;split at D
    .rename_i he;subst D;rw[beq_iff_eq.mp he]
    .exact h5 _ _ D
  .rintro⟨ps,n,O,u,J⟩ s' ⟨F,e1,rfl,rfl,rfl,h5,k,hk,rfl⟩;obtain e2:F=x.cps.toList:=by rw[e1,eF]
   subst e2;obtain e3:x.cps.toList.length=x.length:=h9;refine pC (k9 (by unfold iT;simp only[n8];simp[S,e3])) ?_;rw[List.reverse_reverse,zEj];exact d8 (wpAny_mkStr (s:={ s with toks:=k }) (g7 (h1 (Nat.zero_lt_of_ne_zero N) k hk)) (by show(x.cps.toList.map f).toArray.size<=j0;rw[s8,m8];simp[S,e3]))
end
end Mine.Lake
namespace Mine.Lake
open PySem PySem.W PyProof.Rows PySem.Builtin PySem.Builtin.Str
section
variable{prog:iY}{w:World}{A:w4}{E:Pv}{s:g6}
theorem qHq{Q:j7×Lv->g6->Prop}(h:Q (.builtin "str.translate",[.str x t]) s):wpAny M A (getMethod (.str x t) "translate" u) Q E s:=by with_reducible exact GM.of (.str x t) (eG _ _ _) F.slot_str_translate F.type_str_translate pO h
theorem qOs{K:Frag}(T:TabOk K C d f)(X:K.In s.heap)(I:∀c∈x.cps.toList,c<128)(u:x.length<=j0){Q:Pv}(D:x.length=0->Q (.str x t) s)(h1:0<x.length->∀k,s.toks<=k->Q (.str (trText f x) k) { s with toks:=k+1 }):wpAny (model prog w) A (call (.builtin "str.translate") [.str x t,.ref d] []) Q E s :=
 iN F.slot_str_translate (eG _ _ _) F.entry_str_translate
  (qCb T X I u (λe=>⟨_,rfl,D e⟩) λe k hk=>⟨_,rfl,h1 e k hk⟩) (F.args_str_translate_2 _ _)
theorem zCu{Q:Pv}(T:x.length≠0->u≠0/\v≠0/\u≠v)(U:(occurrences ⟨#[]⟩ y 0 0 1).isEmpty)(I:(y==z)=false)(L:x.length+(x.length+1)*z.length<=16777216)(S:∀t' k,s.toks<=k->Q (.str (dJ x y z) t') { s with toks:=k }):wpAny (model prog w) A (call (.builtin "str.replace") [.str x t,.str y u,.str z v] []) Q E s:=by
 have O:tooLong (x.length+(occurrences x y 0 x.length (x.length+1)).length*z.length)=false:=k9 (Nat.not_lt.mpr (b7 (e6 (fH _ (StrLaws.occ_length_le x y 0 x.length (x.length+1))) _) (b7 L (v6 (by decide:(2:Nat) ^ 24=16777216).symm))));have J:((occurrences x y 0 x.length (x.length+1)).isEmpty||(y.length==0&&z.length==0))=false->x.length≠0:=by
  intro hc N;have:x=⟨#[]⟩:=by obtain⟨c⟩:=x;have:c= #[]:=dY N;rw[this]
  subst this;rw[show((⟨#[]⟩:Str).length)=0 from rfl,U]at hc;exact zT1 hc
 refine call_gives F.slot_str_replace (eG _ _ _) F.entry_str_replace (F.args_str_replace_3 _ _ _)
  (gives_str_replace x y z t u v λhc=>bg (T (J hc)) λa b c=>⟨by simp[a,b],by simp[c],I,O⟩) ?_
 have D:=S;unfold dJ at D;cases hc:((occurrences x y 0 x.length (x.length+1)).isEmpty||(y.length==0&&z.length==0))
 .rw[hc]at D;simp only[nY,if_false]at D ⊢;exact⟨fits_replaced y L,D _ _ (eM _)⟩
 .rw[hc]at D;simp only[if_true]at D ⊢;exact D t s.toks (i5 _)
end
def zJs(v:Str)(s:g6):Prop:=v.length=0\/0<s.toks
section
variable{P:Par}{fr:Ln}{A:w4}{env:Env}{W:Wd}{σ:St}{s s':g6}{cx:Sx}
theorem qEq{E:Pv}(F:FmS P cx.lvl fr A env)(I:Inv P fr W σ.h s)(L:Loc P env W σ s.heap)(N:env.kindOf x=some .local)(hv:VR W σ.n v c) 
  (O:∀s',Step P fr env W σ s W (σ.set x v) s'->s.toks<=s'.toks->Q () s'):wpAny P.M A (storeName env x c) Q E s:=ae L.l λm J q=>gK N J (λS D u=>O _ (Step.set I L F.hL hv N J D u rfl rfl) (eM _)) (by rw[L.kind];rfl)
set_option tactic.hygienic true in
theorem qZr(F:FmS P cx.lvl fr A env)(I:Inv P fr W σ.h s)(L:Loc P env W σ s.heap){x v a b:Str}{q u ap p1 p2 r p:Pos}{J D:Nat}(T:env.kindOf x=some .local)(hg:zF x)(hv:σ.l.lookup x=some (.str v))(hp:zJs v s)(O:zAx a b)(a0:a.length<=j0)(Y:b.length<=j0)(N:qCo v a b)(h5:ap.endLine=r.line){Q:Flow->g6->Prop}{E:Pv}(Z:∀s',Step P fr env W σ s W (σ.set x (.str (dJ v a b))) s'->zJs (dJ v a b) s'->Q .next s'):wpAny P.M A (exec (.Assign [.Name x q] (.Call (.Attribute (.Name x u) "replace" ap) [.Constant (.str a) J p1,.Constant (.str b) D p2] [] r) p) env) Q E s:=by
 refine bC λU=>?_;obtain⟨hd,a6⟩:=vU hg;refine U ?_;unfold zAx at O;unfold qCo at N;simp only[i6,fE,n8]at O N;refine bC λU=>?_;obtain⟨m,hn,hl⟩:=L.l;obtain⟨_,c,hm,S⟩:=hl x (.str v) hv;obtain⟨t,rfl,a7,_⟩:=S.inv_str;refine U (iA ?_ (xM rfl ..));obtain hst:starEach [mD (.str a) J p1,.Constant (.str b) D p2] env=[(false,eval (.Constant (.str a) J p1) env),(false,eval (.Constant (.str b) D p2) env)]:=rfl;show wpAny P.M A (do
  let ov <- attributeBase (.Name x u) "replace" env (eval (.Name x u) env)
  standAt ap.atName
  methodCall (.Name x u) "replace" ap r env ov ([mD (.str a) J p1,.Constant (.str b) D p2].length+([]:List pU).length) (backTo r (starEach [mD (.str a) J p1,.Constant (.str b) D p2] env)) (backToKw r (keywordEach [] env))) _ _ s
 rw[show attributeBase (.Name x u) "replace" env (eval (.Name x u) env)=eval (.Name x u) env from rfl];refine d8 (rE (iH L.kind T hn hm (d8 (eL ?_))) hd);unfold methodCall;rw[(rfl:methodCallForm ([mD (.str a) J p1,.Constant (.str b) D p2].length+([]:List pU).length) (backTo r (starEach [mD (.str a) J p1,.Constant (.str b) D p2] env)) (backToKw r (keywordEach [] env))=true)];refine d8 (r9 (GM.replace (d8 (cB (by unfold methodCallPos;simp[h5]:methodCallPos true (.Name x u) env ap r=pure r) (kJ rfl (oO (mZ ?_) rfl))))));refine oO (mZ (wpAny_items_nil ⟨λE Q hq=>g7 (hq _),zCu (λhz=>?_) O.1 (O.2) N.1.1 λt' k hk=>?_⟩)) rfl
 .rcases hp with hp|hp
  .exact d9 hp hz
  .exact⟨dO hp,gw,n3 (s9 _)⟩
 .obtain st:=Step.toks I L k;refine qEq F st.inv st.l T (.str _ _ N.1.2 N.2) λs' X V=>Z s' (st.trans X) ?_;clear st hst I T hg hv a0 Y N h5 Z;rcases hp with hp|hp
  .refine .inl ?_;have:v=⟨#[]⟩:=by obtain⟨c⟩:=v;have:c= #[]:=dY hp;rw[this]
   subst this;unfold dJ;rw[show((⟨#[]⟩:Str).length)=0 from rfl,O.1];rfl
  .exact .inr (g9 (eQ _) (b7 hk V))
theorem qEx(st:Step P fr env W σ s W' ((σ.set x u).set x v) s'):Step P fr env W σ s W' (σ.set x v) s':=by
 refine⟨st.nx,st.inv,⟨st.l.kind,st.l.g,st.l.bns,?_,st.l.e⟩⟩;refine ae st.l.l λm h1 h2=>⟨m,h1,λz w F=>h2 z w ?_⟩;have D:(yG x v σ.l).lookup z=some w:=F;show(yG x v (yG x u σ.l)).lookup z=some w;rw[lookup_setL]at D |-;by_cases h1:z=x
 .rw[d3 h1]at D |-;exact D
 .rw[b6 h1]at D |-;rw[lookup_setL,b6 h1];exact D
set_option tactic.hygienic true in
theorem zGi(F:FmS P cx.lvl fr A env){E:Pv}(U:env.kindOf x=some .local)(hg:zF x)(h:Reps x ps l l'):∀{W:Wd}{σ:St}{s:g6}{v v':Str},Inv P fr W σ.h s->Loc P env W σ s.heap->σ.l.lookup x=some (.str v)->zJs v s->qCm ps v=some v' ->
   (∀s',Step P fr env W σ s W (σ.set x (.str v')) s'->wpAny P.M A (execs l' env) Q E s')->wpAny P.M A (execs l env) Q E s:=by
 induction h with
 |nil =>
  intro W σ s v v' I L hv hp e J;subst e;refine J s (⟨(Step.refl I L).nx,I,⟨L.kind,L.g,L.bns,?_,L.e⟩⟩);refine ae L.l λm h1 h2=>⟨m,h1,λz w T=>h2 z w ?_⟩;have u:(yG x (.str v) σ.l).lookup z=some w:=T;rw[lookup_setL]at u;by_cases D:z=x
  .replace u:=aw D u;subst u;rw[D];exact hv
  .obtain u:=ao D u;exact u
 | @cons a b ps q X ap p1 p2 r p k1 Y l l' hc Z V =>
  intro W σ s v v' I L hv hp e J;simp only[i6,n8,w6]at hc;have N:(if qCo v a b then qCm ps (dJ v a b)else none)=some v':=e;split at N
  .rename_i hk;refine oM (qZr F I L U hg hv hp hc.1.1.1 hc.1.1.2 hc.1.2 hk hc.2 λs' st S=>V st.inv st.l ?_ S N λs'' O=>J s'' (qEx (st.trans O)));show(yG x _ σ.l).lookup x=_;rw[lookup_setL,d3 rfl]
  .exact zN1 N
theorem zD{α:Type}{o:Option α}{f:α->Rs β}(h:o.elim .bad f≠.bad):∃a,o=some a/\o.elim .bad f=f a:=by
 cases o with
 |none=>exact d9 rfl h
 |some a=>exact⟨a,rfl,rfl⟩
theorem zFn(h1:(zF x&&sc.names.lookup x==some .local))(h2:Ok (.g J) sc (.e (.Name J p1)))(h5:ap.endLine=r.line)(hr:Reps x ps l l')(ib:zP P b sc (.l l')):zP P (.sq x J ps b) sc (.l (.Assign [.Name x q] (.Call (.Attribute (.Name x N) "translate" ap) [.Name J p1] [] r) p::l)):=by
 intro cx C fr A env F S;obtain Jb:=ib cx C fr A env F S;obtain Jg:=(sound C.base h2 fr A env F.toFm S).1;simp only[i6,w6]at h1;have hx:=S.l x h1.2;obtain⟨hd,aq⟩:=vU h1.1;intro W σ s I L D;obtain hev:ex (.sq x J ps b) cx σ=(match σ.l.lookup x with
  |some (.str v)=>(cx.gl J).elim .bad λvt=>(cx.tr vt).elim .bad λf=>(qMo f ps v).elim .bad λv'=>ex b cx (σ.set x (.str v'))
  |_=>.bad):=rfl
 rw[hev]at D ⊢;cases h0:σ.l.lookup x with
 |none=>rw[h0]at D;exact d9 rfl D
 |some w0 =>
  rw[h0]at D;obtain⟨v,hw⟩:∃v,w0=.str v:=by
   cases w0 with
   |str v=>exact⟨v,rfl⟩
   |_=>exact d9 rfl D
  subst hw;have hv:=h0;dsimp only at D ⊢;obtain⟨vt,e1,r1⟩:=zD D;rw[r1]at D ⊢;obtain⟨f,e2,r2⟩:=zD D;rw[r2]at D ⊢;obtain⟨v',e3,r3⟩:=zD D;rw[r3]at D ⊢;refine cm (C.tr _ _ e2) λd K Cc ac T X=>?_;subst ac;have O:(if qSf f v then qCm ps (trText f v)else none)=some v':=e3;by_cases hk:qSf f v=true
  .replace O:=(d3 hk).symm.trans O;unfold qSf at hk;simp only[i6,lB,n8]at hk;obtain⟨m,hn,hl⟩:=L.l;obtain⟨_,c,hm,a4⟩:=hl x (.str v) hv;obtain⟨t,rfl,a2,ar⟩:=a4.inv_str;have V:(trText f v).length=v.length:=by show(v.cps.toList.map f).toArray.size=v.cps.size;rw[s8,m8,h9]
   have a3:ev cx.c (.g J) σ=.ok (.top (.ref d)) σ:=by show(match cx.gl J with|some v=>Rs.ok v σ|Option.none=>.bad)=_;rw[e1]
   refine oM (iA ?_ (xM rfl ..));obtain hform:methodCallForm ([pV J p1].length+([]:List pU).length) (backTo r (starEach [pV J p1] env)) (backToKw r (keywordEach [] env))=true:=rfl;obtain hpos:methodCallPos true (.Name x N) env ap r=pure r:=by unfold methodCallPos;simp[h5]
   show wpAny P.M A (do
    let ov <- attributeBase (.Name x N) "translate" env (eval (.Name x N) env)
    standAt ap.atName
    methodCall (.Name x N) "translate" ap r env ov ([pV J p1].length+([]:List pU).length) (backTo r (starEach [pV J p1] env)) (backToKw r (keywordEach [] env))) _ _ s
   rw[show attributeBase (.Name x N) "translate" env (eval (.Name x N) env)=eval (.Name x N) env from rfl];refine d8 (rE (iH L.kind hx hn hm (d8 (eL ?_))) hd);unfold methodCall;rw[hform];refine d8 (r9 (qHq (d8 (cB hpos (kJ rfl ?_)))));refine oO (j9 (Jg W σ s I L (by rw[a3];nofun)) (λc a9 ⟨u,a0,aB,e,Z,hu⟩=>?_) (λe s' h=>h.elim)) rfl;replace e:=a3.symm.trans e;injection e with e h_;subst e h_
   obtain rfl:=hu.inv_top;refine wpAny_items_nil ⟨λE Q hq=>g7 (hq _),?_⟩;have go:∀t' k,zJs (trText f v) { a9 with toks:=k }->wpAny P.M A (storeName env x (.str (trText f v) t')) (λz aF=>wpAny P.M A (execs l env) (PostF P fr env W σ s (ex b cx (σ.set x (.str v')))) NoE aF) NoE { a9 with toks:=k }:=by
    intro t' k hp;obtain st:=Z.trans (Step.toks Z.inv Z.l k);refine qEq F st.inv st.l hx (.str _ _ (by rw[V];exact a2) hk.2) λs' ad a1=>?_;have U:=st.trans ad;refine zGi F hx h1.1 hr U.inv U.l ?_ ?_ O λs'' a7=>?_
    .show(yG x _ σ.l).lookup x=_;rw[lookup_setL,d3 rfl]
    .rcases hp with hp|hp
     .exact .inl hp
     .exact .inr (g9 hp a1)
    .have Y:=qEx (U.trans a7);exact j9 (Jb _ _ _ Y.inv Y.l D) (λc s' h=>h.after Y) λe s' h=>h.elim
   refine qOs T (X.keeps Z.inv.keep) hk.1 a2 (λhz=>?_) λhz k a1=>go k (k+1) (.inr (eQ _))
   .obtain e0:trText f v=v:=by obtain⟨c⟩:=v;have:c= #[]:=dY hz;subst this;rfl
    have g:=go t a9.toks (.inl (by rw[V];exact hz));rw[e0]at g;exact g
  .exact zN1 ((b6 hk).symm.trans O)
end
end Mine.Lake
namespace Mine.Lake
open PySem PySem.W PyProof.Rows
set_option tactic.hygienic true in
theorem zJg(I:Inv P fr W σ.h s)(L:Loc P env W σ s.heap){a b:V}{Y X:j7}(T:VR W σ.n a Y)(U:VR W σ.n b X)(O:(augV a b).st σ≠.bad):wpAny P.M A (inplaceOp .Add Y X) (Post P fr env W σ s ((augV a b).st σ)) NoE s:=by
 have F:augV a b≠.bad:=λq=>O (by rw[q];rfl);clear O;cases a with
 |int x =>refine bf (qU (F)) λy e2=>?_;obtain rfl:=qI e2;refine bf T.inv_int λz D=>?_;subst D;refine bf U.inv_int λz D=>?_;subst D;exact wpAny_iadd_int (qJ rfl (Step.toks I L _) (.int ..))
 |str x =>
  refine bf (qU (F)) λy e2=>?_;obtain rfl:=qH e2;obtain hx:=T.strLe;obtain hy:=U.strLe;by_cases J:x.length+y.length<=j0
  .obtain e:augV (.str x) (.str y)=.ok (.str (x++y)):=d3 J;rw[e];refine bh T.inv_str λt D z N=>?_;subst D;refine bh U.inv_str λu D z S=>?_;subst D;refine PySem.P.iadd_str ?_;split
   .rename_i h;exact qJ rfl (Step.refl I L) (by rw[qEp h];exact .str _ _ hy S)
   .split
    .rename_i h;exact qJ rfl (Step.refl I L) (by rw[qEo h];exact .str _ _ hx N)
    .obtain hl:(x++y).length<=j0:=by show(x.cps++y.cps).size<=_;rw[mF];exact J
     exact⟨hl,qJ rfl (Step.toks I L _) (.str _ _ hl (kH N S))⟩
  .exact d9 (b6 J) F
 |_=>exact d9 rfl F
set_option tactic.hygienic true in
theorem qYo(h3:sc.names.lookup x=some .local)(h4:Ok e sc (.e v)):zP P (.aug x e) sc (.s (.AugAssign (.Name x p) .Add v pos)):=by
 intro cx C fr A env F S;have hk:=S.l x h3;intro W σ s I L D;obtain hev:ex (.aug x e) cx σ=(ev cx.c (.v x) σ).bind λu aQ=>(ev cx.c e aQ).bind λv a0=>((augV u v).st a0).bind λr a7=>.ok .next (a7.set x r):=rfl;rw[hev]at D |-;obtain Jx:OkE P fr A env (loadName env x) (ev cx.c (.v x)):=λW σ s I L D=>by
  obtain hev:ev cx.c (.v x) σ=(match σ.l.lookup x with|some v=>.ok v σ|Option.none=>.bad):=rfl;rw[hev]at D |-;split at D
  .rename_i v hv;refine ae L.l λm Y V=>?_;obtain⟨_,c,hm,N⟩:=V x v hv;exact iH L.kind hk Y hm (qJ rfl (Step.refl I L) N)
  .exact d9 rfl D
 refine wpAny_AugAssign_Name (qLx Jx (sound C.base h4 fr A env F.toFm S).1 I L D (λe s' h=>h) λaH a7 aF u w cu cw aN J Z hw=>?_);rw[aN]at D |-;refine j9 (zJg J.inv J.l Z hw (Rs.bind_ne D)) (λc aK ⟨r,aD,U,aM,O,N⟩=>?_) (λe s' h=>h.elim);rw[Rs.bind_ok aM]at D |-;exact zX F O.inv O.l hk N λaR T=>⟨_,_,U,rfl,(J.trans O).trans T,.next⟩
theorem qAx{t:Tgt}{cond:X}:((ev c (.comp elt y it cond) σ).bind λu a0=>kV (t.put a0 x u))=(ev c (.comp elt y it cond) σ).bind λu a0=>match u with| .list xs=>kV (t.put (Keep.froze.st xs a0) x (Keep.froze.val xs a0))|_=>.bad:=by
 cases D:ev c (.comp elt y it cond) σ with
 |ok u a0=>obtain⟨xs,rfl⟩:=qVp D;rfl
 |bad=>rfl
section
variable{sc cs:Scope}{elt it cond:X}{y:Str}{e i:Expr}{ifs:List Expr}{x:Str}{p q zp lp:Pos}(hi:Ok it sc (.e i))(h2:Ok elt cs (.e e))(h3:Ok cond cs (.ofCond ifs))(h4:xP y sc cs=true)(h5:xC i=false)
include hi h2 h3 h4 h5
theorem qTf(h1:sc.names.lookup x=some .local):zP P (.a x (.comp elt y it cond)) sc (.s (.Assign [.Name x q] (.ListComp e [⟨.Name y zp,i,ifs,0⟩] cs lp) p)):=
 λcx C fr A env F S W σ s I L u=>qAy C F S .froze .l hi h2 h3 h4 h5 (S.l x h1) I L _ (qAx (c:=cx.c) (t:=.l) (x:=x) (elt:=elt) (it:=it) (cond:=cond) (y:=y) (σ:=σ)) u
theorem qMl(h1:sc.names.lookup x=some .cell):zP P (.asgC x (.comp elt y it cond)) sc (.s (.Assign [.Name x q] (.ListComp e [⟨.Name y zp,i,ifs,0⟩] cs lp) p)):=
 λcx C fr A env F S W σ s I L u=>qAy C F S .froze .e hi h2 h3 h4 h5 (S.cell x h1) I L _ (qAx (c:=cx.c) (t:=.e) (x:=x) (elt:=elt) (it:=it) (cond:=cond) (y:=y) (σ:=σ)) u
end
theorem qXv{st:S}(h:TieS st sc u):zP P st sc u:=by
 induction h with
 |brk=>exact qYn
 |expr a b=>exact qTa a b
 |a a b c=>exact qYp a b c
 |own a b=>exact qYk a b
 |asgC a b c=>exact qTg a b c
 |asgK a b c d e f=>exact qTf b c d e f a
 |asgCK a b c d e f=>exact qMl b c d e f a
 |aug a b=>exact qYo a b
 |setA a b c=>exact qSw a b c
 |ret a=>exact qYj a
 |ite a _ _ b c=>exact qYm a b c
 |loop a _ _ b c=>exact qSz a b c
 |each a b _ c d=>exact qTb a b d c
 |assert a=>exact qIp a
 |nil=>exact qYl
 |seq _ _ a b=>exact qYi a b
 |asg2 a b c=>exact qTh a b c
 |asg2s a b c d e=>exact qMm a b c d e
 |cont=>exact qTd
 |ret0=>exact qSx
 |asgs a b c _=>exact qTe a b c
 |ownA a b c=>exact qSy a b c
 |setA2 a b c=>exact qMj a b c
 |delL a=>exact qTc a
 |eachC a b _ c d=>exact qMk a b d c
 |sq a b c d _ e=>exact zFn a b c d e
noncomputable def Hp.add(H:Hp)(o:O):Hp:={ o:=λk=>if k=H.n then some o else H.o k,n:=H.n+1 }
noncomputable def cellsH(bv:List (Str×V)):List (Str×dE)->Hp->List (Str×Nat)->Hp×List (Str×Nat)
 | [],H,c=>(H,c)
 |(x,k)::r,H,c=>if k == .cell then cellsH bv r (H.add (.cell (bv.lookup x))) ((x,H.n)::c)else cellsH bv r H c
theorem qLc:cellsH bv ((x,k)::r) H c=if k == .cell then cellsH bv r (H.add (.cell (bv.lookup x))) ((x,H.n)::c)else cellsH bv r H c:=rfl
def wW(sc:Scope)(ps:List Str):Bool:=sc.kind == .function&&!sc.isCoroutine&&!sc.isGenerator&&keyed sc.names&&sc.names.all (λp=>p.2 != .free)&&distinct ps&&ps.all (λx=>sc.names.lookup x==some .local||sc.names.lookup x==some .cell)
noncomputable def retR(f:Fl)(σ:St):Rs V:=match f with
 | .ret v=>.ok v σ
 | .next=>.ok .none σ
 |_=>.bad
def entryC(sc:Scope)(bv:List (Str×V))(H:Hp):St:={ h:=(cellsH bv sc.names H []).1,l:=bv.filter (λp=>sc.names.lookup p.1==some .local),e:=(cellsH bv sc.names H []).2 }
noncomputable def entry(bv:List (Str×V))(H:Hp):St:={ h:=H,l:=bv }
noncomputable def uF(sc:Scope)(ps:List Str):Bool:=sc.names.all (λp=>!(p.2 == .cell))&&ps.all λx=>sc.names.lookup x==some .local
theorem qHw(h:uF sc ps):entryC sc (ps.zip args) H=entry (ps.zip args) H:=by
 unfold uF at h;rw[i6]at h;unfold entryC entry;rw[(by
  intro l
  induction l with
  |nil=>intro _ c;rfl
  |cons p l u =>
   intro h c
   rw[dS,i6]at h
   obtain⟨x,k⟩:=p
   refine bc (by rw[(by
    cases q:(k==NameKind.cell)with
    |false=>rfl
    |true=>rw[show((x,k):Str×dE).2=k from rfl,q]at h;exact d9 h.1 pi:(k==NameKind.cell)=false)];decide) ?_
   exact u h.2 c:∀(l:List (Str×dE)),l.all (λp=>!(p.2 == .cell))=true->∀c,cellsH (ps.zip args) l H c=(H,c)) _ h.1,(List.filter_eq_self.mpr λp hp=>List.all_eq_true.mp h.2 _ (of_mem_zip (a:=p.1) (b:=p.2) hp).1)]
def runFn(sc:Scope)(ps:List Str)(b:S)(cx:Sx)(args:List V)(H:Hp):Rs V :=
 if args.length=ps.length then(ex b cx (entryC sc (ps.zip args) H)).bind retR else .bad
def Ro(W:Wd)(n:Nat):Option V->Option j7->Prop
 |some v,some c=>VR W n v c
 |none,none=>True
 |_,_=>False
theorem qBk(x:Str):∀(ps:List Str){args:List V}{cs:Lv},VRs W n args cs->Ro W n ((ps.zip args).lookup x) ((ps.zip cs).lookup x):=by
  intro D;induction D with
  |nil=>exact@λq q q=>trivial
  |cons p ps u =>
   exact@fun
   |_,_,.nil=>trivial
   |_,_,.cons h r=>by
    unfold List.zip List.zipWith k8;cases x==p with
    |true=>exact h
    |false=>exact u r
theorem jS{α:Type}:∀{ps:List Str}{cs:List α},ps.all (λy=>y != x)->(ps.zip cs).lookup x=none:=by
  intro D;induction D with
  |nil=>intro _ _;rfl
  |cons p ps u =>
   exact@fun
   | [],_=>by rfl
   |c::cs,h=>by simp only[dS,i6,oX,ne_eq]at h;simp only[nX,k8];rw[show(x==p)=false from by simpa usingλq=>h.1 q.symm];exact u h.2
theorem qLf:∀{ps:List Str}{cs:Lv}{m:Str->Option j7},distinct ps->bindL u (ps.zip cs) m x=if u x=some .local then((ps.zip cs).lookup x).or (m x)else m x:=by
  intro I;induction I with
  |nil=>intro cs m _;simp[bindL]
  |cons p ps F =>
   exact@fun
   | [],m,_=>by simp[bindL]
   |c::cs,m,h=>by
    simp only[distinct,i6]at h;simp only[nX,bindL];rw[F h.2];simp only[k8];by_cases D:x=p
    · subst D
      rw[jS h.1];by_cases hk:u x=some .local
      · simp[hk]
      · simp[hk]
    · rw[show(x==p)=false from by simpa using D]
      by_cases hk:u x=some .local
      · simp only[hk,if_true]
        congr 1;by_cases hp:u p=some .local
        · simp[hp,D]
        · simp[hp]
      · simp only[hk,if_false]
        by_cases hp:u p=some .local
        · simp[hp,D]
        · simp[hp]
theorem qLg(hk:u x≠some .local):∀{ps:List Str}{cs:Lv}{m:Str->Option j7},distinct ps->bindC u (ps.zip cs) m x=((ps.zip cs).lookup x).or (m x):=by
  intro I;induction I with
  |nil=>intro cs m _;simp[bindC]
  |cons p ps F =>
   exact@fun
   | [],m,_=>by simp[bindC]
   |c::cs,m,h=>by
    simp only[distinct,i6]at h;simp only[nX,bindC];rw[F h.2];simp only[k8];by_cases D:x=p
    · subst D
      rw[jS h.1];simp[hk]
    · rw[show(x==p)=false from by simpa using D]
      by_cases hp:u p=some .local
      · simp[hp]
      · simp[hp,D]
theorem jL{x:Str}{k:dE}:∀{names:List (Str×dE)},keyed names->(x,k)∈names->names.lookup x=some k
 |(y,k')::r,h,hm=>by
  simp only[keyed,i6]at h
  rcases List.mem_cons.mp hm with q|q
  .injection q with q h_;subst q h_;simp[k8]
  .simp only[k8]
   rw[show(x==y)=false from by simpa using(by
    have:=List.all_eq_true.mp h.1 _ q
    simpa using this)]
   exact jL h.2 q
theorem zQ:∀{names:List (Str×dE)},names.lookup x=some k->(x,k)∈names:=by
 intro F;induction F with
 |nil=>exactλh=>zN1 h
 |cons zp r D =>
  obtain⟨y,I⟩:=zp;intro h;simp only[k8]at h;cases u:x==y with
  |true=>rw[u]at h;subst h;rw[show x=y from by simpa using u];exact .head _
  |false=>rw[u]at h;exact .tail _ (D h)
theorem yO:∀{names:List (Str×dE)}{n:Nat}{acc:List (Str×Addr)},((acc.lookup x).isSome=true\/(x,NameKind.cell)∈names)->((cellsFrom n names acc).lookup x).isSome:=by
 intro F;induction F with
 |nil =>
  intro n acc h;rcases h with h|h
  .exact h
  .cases h
 |cons zp r u =>
  obtain⟨y,k⟩:=zp;intro n acc h;unfold cellsFrom;by_cases hk:(k==NameKind.cell)=true
  .rw[d3 hk];refine u ?_;simp only[k8];cases D:x==y with
   |true=>exact .inl rfl
   |false =>
    rcases h with h|h
    .exact .inl h
    .rcases List.mem_cons.mp h with q|q
     .injection q with q;subst q;simp at D
     .exact .inr q
  .rw[b6 hk];refine u ?_;rcases h with h|h
   .exact .inl h
   .rcases List.mem_cons.mp h with q|q
    .injection q with q h_;subst q h_;exact d9 rfl hk
    .exact .inr q
section
variable{P:Par}{fr:Ln}{env:Env}{W W':Wd}{σ:St}{s s':g6}
theorem qDr{bv:List (Str×V)}{J:Str->Option j7}{all:List (Str×Addr)}{L:Nat}(u:∀x c,(x,c)∈all->s'.heap.IsCell c (J x))(D:∀x,Ro W σ.n (bv.lookup x) (J x)\/∀c,(x,c)∉all):∀(names:List (Str×dE))(n:Nat)(acc:List (Str×Addr))(cel:List (Str×Nat))(H:Hp)(W':Wd),(∀p∈cellsFrom n names acc,p∈all)->Step P fr env W σ s W' { σ with h:=H } s'->s.heap.get? L=none->L<n->s.heap.objs.size<=n ->
   Out P fr W' H.n L->(∀a,n<=a->Out P fr W' H.n a)->(∀x k,cel.lookup x=some k->k<H.n/\acc.lookup x=some (W'.ρ k)) ->
   ∃W'',Step P fr env W σ s W'' { σ with h:=(cellsH bv names H cel).1 } s'/\Out P fr W'' (cellsH bv names H cel).1.n L/\∀x k,(cellsH bv names H cel).2.lookup x=some k->k<(cellsH bv names H cel).1.n/\(cellsFrom n names acc).lookup x=some (W''.ρ k)
 | [],n,acc,cel,H,W',_,st,_,_,_,oL,_,hc=>⟨W',st,oL,hc⟩
 |(x,k)::r,n,acc,cel,H,W',ha,st,hL,hn,hsz,oL,oa,hc=>by
  unfold cellsFrom at ha |-
  rw[qLc]
  by_cases hk:(k==NameKind.cell)=true
  .rw[d3 hk]at ha |-
   rw[d3 hk]
   have hm:(x,n)∈all:=ha _ ((by
    intro names
    induction names with
    |nil=>exactλz z z h=>h
    |cons hd X S =>
     intro m ac p h
     obtain⟨y,Y⟩:=hd
     unfold cellsFrom
     split
     .exact S _ _ _ (.tail _ h)
     .exact S _ _ _ h:∀(names:List (Str×dE))(m:Nat)(ac:List (Str×Addr)),∀p∈ac,p∈cellsFrom m names ac) _ _ _ _ (.head _))
   refine ae (u x n hm) λU e1 I=>?_
   obtain wl:=W'.add_le H.n n
   obtain ρn:(W'.add H.n n).ρ H.n=n:=ax rfl rfl
   have N:∀a,a≠n->Out P fr W' H.n a->Out P fr (W'.add H.n n) (H.n+1) a:=λa O o=>⟨o.notB,o.notFr,o.notFz,λj F=>by
    rcases Nat.lt_succ_iff_lt_or_eq.mp F with h|h
    .rw[wl.ρ j h];exact o.notOwn j h
    .subst h;rw[ρn];exact fR O⟩
   refine qDr u D r (n+1) ((x,n)::acc) ((x,H.n)::cel) (H.add (.cell (bv.lookup x))) (W'.add H.n n) ha (Step.addLate (o:=.cell (bv.lookup x)) st (fM hsz) e1 (oa n (i5 _)) (by
    rcases D x with q|q
    .revert q I
     cases bv.lookup x with
     |none=>cases J x with
      |none=>exactλI z=>.nocell I
      |some _=>exactλz q=>q.elim
     |some v=>cases J x with
      |none=>exactλz q=>q.elim
      |some c=>exactλI q=>.cell I ((VR.mono st.nx.wle st.nx.le q).mono wl (eM _))
    .exact d9 hm (q n))) hL (m3 hn) (m3 hsz) (N L (n3 hn) oL) (λa h=>N a (dO h) (oa a (m9 h))) λy j F=>?_
   simp only[k8]at F |-
   cases T:y==x with
   |true=>rw[T]at F;subst F;exact⟨s9 _,by rw[ρn]⟩
   |false =>
    rw[T]at F
    obtain⟨p,q⟩:=hc y j F
    exact⟨dU p,by rw[wl.ρ j p];exact q⟩
  .rw[b6 hk]at ha |-
   rw[b6 hk]
   exact qDr u D r n acc cel H W' ha st hL hn hsz oL oa hc
end
structure FnOk(P:Par)(f:Addr)(fd:FuncData)(ps:List Str)(body:List Stmt):Prop where
 there:∃o,P.B.get? f=some o/\o.data=.func fd
 lim:P.B.NoLimit
 code:P.B.CodeRec fd.code fd.qualname
 body:fd.body=.stmts body
 clo:fd.closure=[]
 g:fd.globals=eJ
 bns:fd.builtins=fV
 bind:∀s:g6,(∀b o,P.B.get? b=some o->s.heap.get? b=some o)->∀cargs:Lv,cargs.length=ps.length->BindsTo s fd ⟨cargs,[]⟩ (ps.zip cargs)
 shape:wW fd.scope ps=true
section
variable{P:Par}{fr:Ln}{A:w4}{W:Wd}{σ:St}{s:g6}
def zOi(P:Par)(lv:Nat)(sc:Scope)(body:List Stmt)(aQ:St)(r:Rs Fl):Prop:=∀fr A env W s,FmS P lv fr A env->ScOk sc env->Inv P fr W aQ.h s->Loc P env W aQ s.heap ->
 wpAny P.M A (execs body env) (PostF P fr env W aQ s r) NoE s
set_option backward.match.sparseCases true in
set_option tactic.hygienic true in
theorem qVu(K:FnOk P f D ps body) 
  (hb:zOi P lv D.scope body (entryC D.scope (ps.zip args) σ.h) r)(F:Fm P (lv+1) fr A env)(I:Inv P fr W σ.h s)(L:Loc P env W σ s.heap)(ha:VRs W σ.n args cargs)(ak:args.length=ps.length)(U:∀fl σ',r=.ok fl σ'->retR fl σ'≠.bad):codeAny P.M A (.call (.ref f) ⟨cargs,[]⟩) (λx s'=>match x with| .ok (.ret v)=>Post P fr env W σ s ((r.bind retR).lift σ) v s'| .ok _=>False| .error e=>NoE e s') s:=by
 refine ae K.there λo ho hd=>?_;obtain ho':=I.keep f o ho;obtain hsh:=K.shape;simp only[wW,i6,w6,fE]at hsh;obtain⟨⟨⟨⟨⟨⟨k1,k2⟩,k3⟩,k4⟩,k5⟩,k6⟩,k7⟩:=hsh;refine codeAny_call_function (by have:=F.depth;exact iq this) ho' hd k2 k3 K.body (K.code.keeps I.keep) (K.bind s I.keep cargs (ha.length.trans ak) _ _ _ _ ?_);rw[K.clo];refine wpAny_newFunctionEnv_cells k1 ((λn x az=>by
  have:=List.all_eq_true.mp k7 _ ((of_mem_zip (a:=x.1) (b:=x.2) az).1)
  simp only[eS,w6]at this
  rcases this with q|q
  .exact .inl q
  .exact .inr ⟨q,yO (.inr (zQ q))⟩:∀n,∀x∈ps.zip cargs,D.scope.names.lookup x.1=some .local\/(D.scope.names.lookup x.1=some .cell/\((cellsFrom n D.scope.names []).lookup x.1).isSome=true)) _) λbe he X x=>?_
 subst he;refine⟨(K.lim.keeps I.keep).keeps x.toInCall.keep,codeAny_func (bp x.done λaE tk es cO=>?_)⟩;generalize ab:s.heap.objs.size=LL at x;have a5:s.heap.get? LL=none:=ab▸vP _;generalize N:newEnv D.scope LL D.globals (cellsFrom (LL+1) D.scope.names []) (D.qualname++".<locals>.") (some f) D.code none D.builtins=cenv at x;have c1:cenv.scope=D.scope:=by rw[<- N];rfl
 have c2:cenv.locals=LL:=by rw[<- N];rfl
 have c3:cenv.cells=cellsFrom (LL+1) D.scope.names []:=by rw[<- N];rfl
 have c4:cenv.globals=eJ:=by rw[<- N];exact K.g
 have c5:cenv.builtins=fV:=by rw[<- N];exact K.bns
 obtain c6:cenv.frame=some LL:=by rw[<- N];rfl
 have S:∀y,cenv.kindOf y=D.scope.names.lookup y:=λy=>by unfold Env.kindOf;rw[c1]
 have g1:X.gens=s.gens:=by rw[es]
 have g2:X.os=s.os:=by rw[es]
 obtain cP:∀b o,s.heap.get? b=some o->X.heap.get? b=some o:=λb o e=>by rw[es];exact cO b o e
 obtain cQ:Step P fr env W σ s W σ X:=Step.grow I L cP g1 g2;have Y:∀(names:List (Str×dE))(n:Nat)(acc:List (Str×Addr))(y:Str)(c:Addr),(y,c)∈cellsFrom n names acc->(y,c)∈acc\/(y,NameKind.cell)∈names:=by
  intro names;induction names with
  |nil=>exactλw w w w h=>.inl h
  |cons T tl O =>
   intro n acc y c h;obtain⟨z,kz⟩:=T;unfold cellsFrom at h;split at h
   .rename_i Z;rcases O _ _ _ _ h with q|q
    .rcases List.mem_cons.mp q with q|q
     .injection q with q;subst q;right;rw[show kz=NameKind.cell from by simpa using Z];exact .head _
     .exact .inl q
    .exact .inr (.tail _ q)
   .rcases O _ _ _ _ h with q|q
    .exact .inl q
    .exact .inr (.tail _ q)
 have a6:∀y c,(y,c)∈cellsFrom (LL+1) D.scope.names []->X.heap.IsCell c (bindC cenv.kindOf (ps.zip cargs) (λw=>none) y):=λy c hm=>by
  refine x.cell y c ?_;rw[c3];exact lookup_of_mem_nodup ((by
  intro names
  induction names with
  |nil=>exactλw w w h w=>h
  |cons T tl O =>
   intro n acc a4 ag ac
   obtain⟨z,kz⟩:=T
   simp only[keyed,i6]at a4
   unfold cellsFrom
   split
   .refine O _ _ a4.2 ?_ λp hp q J=>?_
    .simp only[fX,List.nodup_cons]
     exact⟨λhm=>ae (List.mem_map.mp hm) λp hp e=>ac p hp _ (.head _) e.symm,ag⟩
    .rcases List.mem_cons.mp hp with e|e
     .subst e;have:=List.all_eq_true.mp a4.1 q J;simpa using this
     .exact ac p e q (.tail _ J)
   .exact O _ _ a4.2 ag λp hp q J=>ac p hp q (.tail _ J):∀(names:List (Str×dE))(n:Nat)(acc:List (Str×Addr)),keyed names=true->(acc.map (·.1)).Nodup->(∀p∈acc,∀q∈names,q.1≠p.1)->((cellsFrom n names acc).map (·.1)).Nodup) _ _ _ k4 pi λp hp=>by cases hp) hm
 have ai:∀y,Ro W σ.n ((ps.zip args).lookup y) (bindC cenv.kindOf (ps.zip cargs) (λw=>none) y)\/∀c,(y,c)∉cellsFrom (LL+1) D.scope.names []:=λy=>by
  by_cases hy:(y,NameKind.cell)∈D.scope.names
  .left;rw[qLg (by rw[S,(jL k4 hy)];intro q;cases q) k6];have:=qBk y ps ha;cases h1:(ps.zip cargs).lookup y with
   |none=>rw[h1]at this;exact this
   |some c=>rw[h1]at this;exact this
  .right;intro c hm;rcases Y _ _ _ _ _ hm with q|q
   .cases q
   .exact hy q
 refine bh (qDr (L:=LL) (bv:=ps.zip args) a6 ai D.scope.names (LL+1) [] [] σ.h W (λp hp=>hp) cQ a5 (s9 _) (Nat.le.step (v6 ab)) (Out.new I a5)
  (λa h=>Out.new I (fM (ab▸m4 h))) (λy k h=>by cases h)) λaB a8 oL am=>?_
 refine cm x.toInCall.ns λoF bm bn f1 f2 f3=>?_;rw[c2]at f1;obtain cR:Inv P (LL::fr) aB (entryC D.scope (ps.zip args) σ.h).h X:=Inv.under (σ:={ σ with h:=(cellsH (ps.zip args) D.scope.names σ.h []).1 }) a8.inv oL f1 λvs q=>by rw[f2]at q;cases q
 have cS:Loc P cenv aB (entryC D.scope (ps.zip args) σ.h) X.heap:=by
  refine⟨by rw[c1];exact k1,c4,c5,⟨_,x.toInCall.ns,λy v h=>?_⟩,λy k h=>?_⟩
  .obtain⟨p1,p2⟩:=(by
    intro l
    induction l with
    |nil=>intro h;cases h
    |cons T tl O =>
     intro h
     obtain⟨z,u⟩:=T
     simp only[List.filter]at h
     cases Z:(D.scope.names.lookup z==some NameKind.local)with
     |true =>
      rw[Z]at h
      simp only[k8]at h ⊢
      cases J:y==z with
      |true =>
       rw[J]at h
       have e:y=z:=by simpa using J
       subst e
       exact⟨by simpa using Z,h⟩
      |false=>rw[J]at h;exact O h
     |false =>
      rw[Z]at h
      obtain⟨p1,p2⟩:=O h
      refine⟨p1,?_⟩
      simp only[k8]
      cases J:y==z with
      |true =>
       have e:y=z:=by simpa using J
       subst e
       rw[p1]at Z;simp at Z
      |false=>exact p2:∀(l:List (Str×V)),(l.filter (λp=>D.scope.names.lookup p.1==some .local)).lookup y=some v->D.scope.names.lookup y=some .local/\l.lookup y=some v) _ h
   obtain U:=qBk y ps ha;rw[p2]at U;refine⟨by rw[S];exact p1,?_⟩;cases h1:(ps.zip cargs).lookup y with
   |none=>rw[h1]at U;exact U.elim
   |some c =>rw[h1]at U;refine⟨c,?_,VR.mono a8.nx.wle a8.nx.le U⟩;rw[qLf k6,S,p1,h1];rfl
  .obtain⟨p,q⟩:=am y k h;exact⟨p,λw=>by rw[c3];exact q⟩
 have cT:ScOk D.scope cenv:=by
  refine⟨λy h=>by rw[S];exact h,λy h=>by rw[S];exact h,λy h=>by rw[S];exact h,λy h=>by rw[S];exact h,λy h=>?_⟩;rw[S]at h;rw[c3];rcases h with h|h
  .have:=yO (n:=LL+1) (acc:=[]) (.inr (zQ h));exact Option.isSome_iff_exists.mp this
  .have:=List.all_eq_true.mp k5 _ (zQ h);simp at this
 refine ae F.frames λlf af av=>?_;obtain cU:FmS P lv (LL::fr) (A.deeper cenv) cenv:=by
  refine⟨⟨by rw[c2];exact .head _,F.handled,by have:=F.units;show A.units+3+_+_<_;exact ir this,by have:=F.depth;show A.depth+1+_+_<_;exact iu this,cenv::lf,by show A.frames.map _=_;rw[af];rfl,λe he=>?_⟩,⟨lf,by show A.frames.map _=_;rw[af];rfl⟩,by rw[c2];exact c6⟩;rcases List.mem_cons.mp he with q|q
  .subst q;exact⟨by rw[c1,k1];decide,LL,c6,.head _⟩
  .obtain⟨a1,Lx,a2,a3⟩:=av e q;exact⟨a1,Lx,a2,.tail _ a3⟩
 have b3:LL≠env.locals:=λq=>by have:=(I.frB _ F.hL).2;refine ae this λo' e' w=>?_;rw[<- q,a5]at e';cases e'
 refine j9 (hb (LL::fr) _ cenv aB _ cU cT cR cS) (λfl aF ⟨v,a7,aH,aN,aA,hv⟩=>?_) (λe aF h=>h.elim);have ah:=Step.inner (a0:=entryC D.scope (ps.zip args) σ.h) a8 F.hL a5 c2 b3 rfl aA;have aa:=U _ _ aN;subst aN;cases hv with
 |next=>exact⟨_,_,aH,rfl,ah,.none⟩
 |ret hv=>exact⟨_,_,aH,rfl,ah,hv⟩
 |brk=>exact d9 rfl aa
 |cont=>exact d9 rfl aa
theorem qUp(K:FnOk P f F ps body)(I:Inv P fr W σ.h s):yD P.M A (.ref f) s:=λE Q u=>by
 refine ae K.there λo D hd=>d8 (iD (I.keep f o D) ?_)
 rw[hd]
 exact g7 (u _)
theorem zLv(D:(runFn sc ps b cx args H).lift σ≠.bad):args.length=ps.length/\((ex b cx (entryC sc (ps.zip args) H)).bind retR)≠.bad:=by
 have u:args.length=ps.length:=by refine nN λq=>D ?_;unfold runFn;rw[b6 q];rfl
 refine⟨u,λq=>D ?_⟩;unfold runFn;rw[d3 u,q];rfl
set_option backward.match.sparseCases true in
theorem zCw(K:FnOk P f u ps body)(C:SxOk P cx)(T:TieS b u.scope (.l body))(F:Fm P (cx.lvl+1) fr A env)(I:Inv P fr W σ.h s)(L:Loc P env W σ s.heap)(O:VRs W σ.n args cargs)(N:(runFn u.scope ps b cx args σ.h).lift σ≠.bad):codeAny P.M A (.call (.ref f) ⟨cargs,[]⟩) (λr s'=>match r with| .ok (.ret v)=>Post P fr env W σ s ((runFn u.scope ps b cx args σ.h).lift σ) v s'| .ok _=>False| .error e=>NoE e s') s:=by
 refine bo (zLv N) λD J=>?_;obtain e:runFn u.scope ps b cx args σ.h=(ex b cx (entryC u.scope (ps.zip args) σ.h)).bind retR:=d3 D;rw[e];refine oY (qVu K (r:=ex b cx (entryC u.scope (ps.zip args) σ.h)) (λfr A env W s F S I L=>qXv T cx C fr A env F S W _ s I L (Rs.bind_ne J)) F I L O D (λU σ' q=>by rw[q]at J;exact J)) λr s' h=>?_;match r with
 | .ok (.ret v)=>exact h
 | .ok .next=>exact h
 | .ok .brk=>exact h
 | .ok .cont=>exact h
 | .error e=>exact h
end
section
variable{W:Wd}{n:Nat}
theorem FR.find{x:Str}:∀{fs:List (Str×V)}{es:List eV},FR W n fs es->Ro W n (fs.lookup x) ((es.find? (·.key.isStr x)).map (·.val))/\es.any (·.refKey)=false
 |_,_,.nil=>⟨trivial,rfl⟩
 |_,_,.cons (x:=y) (t:=t) hv r=>by
  obtain⟨h1,h2⟩:=FR.find (x:=x) r
  simp only[k8,List.find?]
  obtain e:(Value.str y t).isStr x=(y==x):=rfl
  rw[e]
  cases u:x==y with
  |true =>
   have:y=x:=by simpa using(by simpa using u:x=y).symm
   subst this
   simp only[gE,iV]
   exact⟨hv,by simpa[rN]using h2⟩
  |false =>
   have:(y==x)=false:=by simpa usingλq=>(by simpa using u:x≠y) q.symm
   rw[this]
   exact⟨h1,by simpa[rN]using h2⟩
theorem FR.look(h:FR W n fs es):∃r,lookIn x (dictOf es e)=some r/\Ro W n (fs.lookup x) r:=by
 obtain⟨h1,h2⟩:=FR.find (x:=x) h;unfold lookIn;dsimp only;cases u:es.find? (·.key.isStr x)with
 |none=>rw[u]at h1;dsimp only;rw[b6 (by rw[h2];decide)];exact⟨none,rfl,h1⟩
 |some en=>rw[u]at h1;exact⟨some en.val,rfl,h1⟩
theorem FR.put{x:Str}{v:V}{c:j7}{hs:Int}{t:Tok}{f:Option eV->eV}(f0:f none=⟨hs,.str x t,c⟩)(f1:∀e,f (some e)={ e with val:=c })(hv:VR W n v c):∀{fs:List (Str×V)}{es:List eV},FR W n fs es ->
  ∀{D:List eV}{b:Bool},nsPutIn x.cps.size x.cps.toList f es=(D,b)->FR W n (setF x v fs) D/\D.length<=es.length+1
 |_,_,.nil,D,b,h=>by
  injection h with h;subst h
  rw[f0]
  exact⟨.cons hv .nil,i5 _⟩
 |_,_,.cons (x:=y) (t:=u) (fs:=fs) (es:=es) hy r,D,b,h=>by
  obtain e:(Value.str y u).isStrByCps x.cps.size x.cps.toList=(y==x):=Value.isStrByCps_eq _ _
  unfold nsPutIn at h
  rw[qGw]
  dsimp only at h
  rw[e]at h
  cases F:x==y with
  |true =>
   have:y=x:=by simpa using(by simpa using F:x=y).symm
   subst this
   replace h:=(d3 (by simp)).symm.trans h
   rw[d3 rfl]
   injection h with h;subst h
   rw[f1]
   exact⟨.cons hv r,by simp⟩
  |false =>
   have:(y==x)=false:=by simpa usingλq=>(by simpa using F:x≠y) q.symm
   rw[this,zX1]at h
   rw[zX1]
   cases hp:nsPutIn x.cps.size x.cps.toList f es with
   |mk L J =>
    rw[hp]at h
    injection h with h;subst h
    obtain⟨e2,I⟩:=FR.put f0 f1 hv r hp
    exact⟨.cons hy e2,by simp;exact I⟩
set_option tactic.hygienic true in
theorem FR.putName{x:Str}{v:V}{c:j7}{hs:Int}{t:Tok}{e:Nat}{fs:List (Str×V)}{es:List eV}(hv:VR W n v c)(h:FR W n fs es):∃u F,Obj.putName x hs (.str x t) c (dictOf es e)=dictOf u F/\FR W n (setF x v fs) u/\u.length<=es.length+1:=by
 unfold Obj.putName;dsimp only;split
 .rename_i u hp;obtain⟨e2,D⟩:=FR.put rfl (λq=>rfl) hv h hp;exact⟨_,_,rfl,e2,D⟩
 .rename_i u hp;obtain⟨e2,D⟩:=FR.put rfl (λq=>rfl) hv h hp;exact⟨_,_,rfl,e2,D⟩
theorem FR.length:∀{fs:List (Str×V)}{es:List eV},FR W n fs es->es.length=fs.length
 |_,_,.nil=>rfl
 |_,_,.cons _ r=>by simp[FR.length r]
end
structure ClsOk(P:Par)(K:Frag)(C:Addr):Prop where
 inn:K.In P.B
 makes:makesIn K C=true
 ga:findIn K (.ref C) "__getattribute__"=some (some (.builtin "object.__getattribute__"))
 gt:findIn K (.ref C) "__getattr__"=some none
 sa:findIn K (.ref C) "__setattr__"=some (some (.builtin "object.__setattr__"))
 plain:plainOver K C=true
 dict:hasDictIn K C=true
section
variable{P:Par}{fr:Ln}{A:w4}{env:Env}{W:Wd}{σ:St}{s s':g6}{K:Frag}{C:Addr}
theorem qHm(I:Inv P fr W σ.h s)(hk:σ.o k=some (.inst C d))(hd:σ.o d=some (.dict fs)):∃es e,FR W σ.n fs es/\d<σ.n/\k<σ.n/\s.heap.get? (W.ρ d)=some (dictOf es e)/\InstAt s.heap (W.ρ k) (instObj C (W.ρ d)) C (some (dictOf es e)):=by
 refine bC λu=>?_;obtain⟨p,c,h1,h2⟩:=I.o k _ hk;obtain⟨q,c',h3,h4⟩:=I.o d _ hd;refine u ?_;cases h2;cases h4 with
 |dict h5=>exact⟨_,_,h5,q,p,h3,h1,rfl,rfl,h3⟩
theorem qVa{Q:Pv}{E:Pv}(X:ClsOk P K C)(I:Inv P fr W σ.h s)(hk:σ.o k=some (.inst C d))(hd:σ.o d=some (.dict fs))(F:findIn K (.ref C) f=some none)(hv:fs.lookup f=some v)(u:∀c,VR W σ.n v c->handedIn c)(J:∀c t,VR W σ.n v c->Q c { s with toks:=t }):wpAny P.M A (getAttr (.ref (W.ρ k)) f true) Q E s:=by
 refine cy (qHm I hk hd) λes e D q q h1 L=>ae (D.look (x:=f) (e:=e)) λr h2 h3=>?_;rw[hv]at h3;cases r with
 |none=>exact h3.elim
 |some c=>exact get_value (X.inn.keeps I.keep) L X.ga (findObj_own X.dict F rfl h2) (u c h3) (J c _ h3)
theorem zBr{Q:j7×Lv->g6->Prop}{E:Pv}(X:ClsOk P K C)(I:Inv P fr W σ.h s)(hk:σ.o k=some (.inst C d))(hd:σ.o d=some (.dict fs))(D:findIn K (.ref C) f=some (some (.ref g)))(hg:typeIn K (.ref g)=some (.type "function"))(hv:fs.lookup f=none)(F:Q (.ref g,[.ref (W.ρ k)]) s):wpAny P.M A (getMethod (.ref (W.ρ k)) f J) Q E s:=by
 refine cy (qHm I hk hd) λes e u q q h1 L=>ae (u.look (x:=f) (e:=e)) λr h2 h3=>?_;rw[hv]at h3;cases r with
 |some _=>exact h3.elim
 |none=>exact method_fn (X.inn.keeps I.keep) L X.ga X.gt D hg (by show Option.map (·.isSome) (lookIn f (dictOf es e))=_;rw[h2];rfl) F
theorem qTk{E:Pv}(X:ClsOk P K C)(I:Inv P fr W σ.h s)(L:Loc P env W σ s.heap)(hL:env.locals∈fr)(hk:σ.o k=some (.inst C d))(hd:σ.o d=some (.dict fs))(O:findIn K (.ref C) f=some none)(S:fs.length<=100)(hv:VR W σ.n v c)(T:∀s',Step P fr env W σ s W (σ.put d (.dict (setF f v fs))) s'->Q () s'):wpAny P.M A (setAttr (.ref (W.ρ k)) f c) Q E s:=by
 refine cy (qHm I hk hd) λes e u N a2 h1 D=>set_plain (X.inn.keeps I.keep) D X.sa (osa_open (s:={ s with toks:=s.toks+1 }) (r:=none) (X.inn.keeps I.keep) D X.plain (by unfold takerIn;rw[O];rfl) λb=>ae (any_some X.dict) λcd hc F=>?_);refine bi (u.putName (x:=f) (hs:=pP P.w.params f) (t:=s.toks+1) (e:=e) hv) λJ U p1 p2 p3=>bC λZ=>?_;obtain⟨hx,a1,hn,-⟩:=D;refine Z (d8 (g7 (d8 (d8 (wpAny_loadPart hx (d8 ((looks_clsIn (X.inn.keeps (I.toks (s.toks+1)).keep) hc).here ?_)))))));rw[F];refine g7 (a:=some (W.ρ d)) (d8 (g7 (d8 (d8 (d8 (wpAny_askSetting (g7 (d8 (wpAny_mkText (d8 (wpAny_loadPart h1 ?_)))))))))));dsimp only;rw[aRefKeyMayBeTheName_at,(by
  rw[<- Array.any_toList,<- Array.any_toList,List.toList_toArray,((FR.find (x:=f) u).2),Bool.and_false]:(!es.toArray.any (·.key.isStr f)&&es.toArray.any (·.refKey))=false)]
 refine wpAny_updatePart h1 ?_;obtain hu:(s.heap.update (W.ρ d) (Obj.putName f (pP P.w.params f) (.str f (s.toks+1)) c)).get? (W.ρ d)=some (dictOf J U):=by have:=pH (Obj.putName f (pP P.w.params f) (.str f (s.toks+1)) c) h1 (by rw[p1];rfl);rw[p1]at this;exact this
 exact d8 (wpAny_lookBehind hu (pastItsLine_dict (by rw[s8,lG];have:=u.length;exact iv S p3 this)) (g7 (T _ (Step.put I L N hL (.dict (setF f v fs)) (.dict p2) (λb o Y e=>((iS ..).2 b Y).trans e) hu rfl rfl))))
end
set_option backward.match.sparseCases true in
noncomputable def makeV(C:Addr)(u:List V->Hp->Rs V)(args:List V)(H:Hp):Rs V :=
 match u (.ref (H.n+1)::args) ((H.add (.dict [])).add (.inst C H.n))with
 | .ok .none σ=>.ok (.ref (H.n+1)) σ
 |_=>.bad
section
variable{P:Par}{fr:Ln}{A:w4}{env:Env}{W:Wd}{σ:St}{s s':g6}{K:Frag}{C:Addr}
theorem Fm.under{lv u:Nat}{C:Addr}{as:Lv}(F:Fm P lv fr A env)(h:u+1<=lv):Fm P u fr (A.under (.builtin "type.__call__" ⟨.ref C::as,[]⟩)) env:=by
 refine⟨F.hL,F.handled,?_,?_,by rw[(rfl:(A.under (.builtin "type.__call__" ⟨.ref C::as,[]⟩)).frames=A.frames)];exact F.frames⟩
 .have:=F.units;rw[(rfl:(A.under (.builtin "type.__call__" ⟨.ref C::as,[]⟩)).units=A.units+1)];exact ix h this
 .have:=F.depth;rw[(rfl:(A.under (.builtin "type.__call__" ⟨.ref C::as,[]⟩)).depth=A.depth+1)];exact iy h this
set_option backward.match.sparseCases true in
theorem make_inst(X:ClsOk P K C)(hi:findIn K (.ref C) "__init__"=some (some (.ref fI)))(Z:typeIn K (.ref fI)=some (.type "function"))(hc:∀fr A env,Fm P lv fr A env->∀W σ s,Inv P fr W σ.h s->Loc P env W σ s.heap->∀args cargs,VRs W σ.n args cargs->(D args σ.h).lift σ≠.bad ->
      codeAny P.M A (.call (.ref fI) ⟨cargs,[]⟩) (λr s'=>match r with| .ok (.ret v)=>Post P fr env W σ s ((D args σ.h).lift σ) v s'| .ok _=>False| .error e=>NoE e s') s)(F:Fm P (lv+1) fr A env)(I:Inv P fr W σ.h s)(L:Loc P env W σ s.heap)(ha:VRs W σ.n args cargs)(J:(makeV C D args σ.h).lift σ≠.bad):yD P.M A (.ref C) s/\wpAny P.M A (call (.ref C) cargs []) (Post P fr env W σ s ((makeV C D args σ.h).lift σ)) NoE s:=by
  obtain⟨⟨oc,od,cd,sl,hC,e1,e2,e4⟩,T,base,self,top,call,a3⟩:=makes_of (M:=P.M) (X.inn.keeps I.keep) X.makes;refine⟨λE Q O=>?_,?_⟩
  · refine d8 (iD hC ?_)
    obtain⟨u,g,d,t,os⟩:=s;exact d8 (call.at (g7 (O _)))
  obtain⟨u,g,d,t,os⟩:=s;refine mX (make_core (makes_of (M:=P.M) (X.inn.keeps I.keep) X.makes) (looks_findIn (X.inn.keeps I.keep) hi) (λself=>bind_fn (X.inn.keeps I.keep) self Z) (.inl rfl) ?_);obtain a8:=Step.add (s:=⟨u,g,d,t,os⟩) (s':=⟨u.push emptyDict,g,d,t,os⟩) I L (.dict []) emptyDict (.dict (es:=[]) .nil) rfl rfl rfl;have st:Step P fr env W σ ⟨u,g,d,t,os⟩ ((W.add σ.n u.objs.size).add (σ.n+1) (u.push emptyDict).objs.size) ((σ.add (.dict [])).add (.inst C σ.n)) ⟨(u.push emptyDict).push (instObj C u.objs.size),g,d,t,os⟩:=a8.trans (Step.add (s:=⟨u.push emptyDict,g,d,t,os⟩) (s':=⟨(u.push emptyDict).push (instObj C u.objs.size),g,d,t,os⟩) a8.inv a8.l (.inst C σ.n) (instObj C u.objs.size) (by
    obtain key:=OR.inst (W:=(W.add σ.n u.objs.size).add (σ.n+1) (u.push emptyDict).objs.size) (n:=σ.n+1+1) (C:=C) (d:=σ.n) (by lia)
    rw[((W.add σ.n u.objs.size).add_le (σ.n+1) (u.push emptyDict).objs.size).ρ σ.n (s9 _),(by exact ax rfl rfl:(W.add σ.n u.objs.size).ρ σ.n=u.objs.size)]at key
    exact key) rfl rfl rfl)
  generalize hW:((W.add σ.n u.objs.size).add (σ.n+1) (u.push emptyDict).objs.size)=aH at st;have N:aH.ρ (σ.n+1)=u.objs.size+1:=by rw[<- hW];show(if σ.n+1=σ.n+1 then _ else _)=_;rw[d3 rfl,lO]
  obtain hmk:(makeV C D args σ.h)=(match D (.ref (σ.n+1)::args) ((σ.add (.dict [])).add (.inst C σ.n)).h with
    | .ok .none σ'=>.ok (.ref (σ.n+1)) σ'
      |_=>.bad):=rfl
  refine oY (hc fr _ env (F.under (i5 _)) aH _ _ st.inv st.l _ _ (by
    refine .cons ?_ (ha.mono st.nx.wle st.nx.le)
    rw[<- N]
    exact .ref (by simp):VRs aH (σ.n+1+1) (.ref (σ.n+1)::args) (.ref (u.objs.size+1)::cargs)) (by
    intro q
    refine J ?_
    rw[hmk]
    cases O:D (.ref (σ.n+1)::args) ((σ.add (.dict [])).add (.inst C σ.n)).h with
    |ok v σ'=>rw[O]at q;cases q
    |bad=>rfl)) λr s' z=>?_
  cases O:D (.ref (σ.n+1)::args) ((σ.add (.dict [])).add (.inst C σ.n)).h with
  |ok v σ' =>
    rw[O]at z hmk;cases r with
    |error e=>exact z.elim
    |ok U=>cases U with
     |ret cv =>
      obtain⟨v',aD,Y,q,S,hv⟩:=z;injection q with q h_;subst q h_
      cases v with
      |none =>cases hv;refine⟨rfl,_,_,Y,by rw[hmk];rfl,st.trans S,?_⟩;have:=(VR.ref (W:=aH) (n:=σ.n+1+1) (k:=σ.n+1) (by simp)).mono S.nx.wle S.nx.le;rw[N]at this;exact this
      |_=>rw[hmk]at J;exact d9 rfl J
     |_=>exact z.elim
  |bad=>rw[O]at hmk;rw[hmk]at J;exact d9 rfl J
end
noncomputable def okH(v:V)(H:Hp):Rs V:=.ok v { h:=H,l:=[] }
def qJs(v:V)(H:Hp):Rs V:=match qV v with
 |some x=>okH (.int x.length) H
 |none=>(asList H v).elim .bad λxs=>okH (.int xs.length) H
def qCq(args:List V)(H:Hp):Rs V:=match args with
 | [a]=>(qZ a).elim .bad λn=>if Builtin.Range.small 0 n 1 then okH (.rng 0 n 1) H else .bad
 | [a,b]=>(qZ a).elim .bad λa=>(qZ b).elim .bad λb=>if Builtin.Range.small a b 1 then okH (.rng a b 1) H else .bad
 | [a,b,c]=>(qZ a).elim .bad λa=>(qZ b).elim .bad λb=>(qZ c).elim .bad λc=>if c≠0/\Builtin.divisionGoesByPylong (b-a) c=false/\Builtin.Range.small a b c then okH (.rng a b c) H else .bad
 |_=>.bad
def zT(v x:V)(H:Hp):Rs V:=(qCt H v).elim .bad λq=>if q.2.length+1<=j0 then okH .none { H with o:=λj=>if j=q.1 then some (.list (q.2++[x]))else H.o j }else .bad
theorem yQ(h:H.o k=some (.list xs))(u:xs.length+1<=j0):zT (.ref k) x H=okH .none { H with o:=λj=>if j=k then some (.list (xs++[x]))else H.o j }:=by show((asO (H.o k)).map λxs=>(k,xs)).elim Rs.bad _=_;rw[h];exact d3 u
theorem qGi(h:zT v x H≠.bad):∃k xs,v=.ref k/\H.o k=some (.list xs)/\xs.length+1<=j0:=by obtain⟨⟨k,xs⟩,e⟩:=qU h;obtain⟨rfl,u⟩:=vR e;refine⟨k,xs,rfl,u,nN λq=>h ?_⟩;show(qCt H (.ref k)).elim Rs.bad _=_;rw[e];exact b6 q
theorem qEb:yD M A (.builtin i) s:=λE Q u=>g7 (u _)
theorem qNr:yD M A (.type i) s:=λE Q u=>g7 (u _)
theorem wA(I:Inv P fr W σ.h s)(L:Loc P env W σ s.heap)(e:r=okH v σ.h)(hv:VR W σ.n v c):Post P fr env W σ s (r.lift σ) c { s with toks:=t }:=
 ⟨v,σ,W,by rw[e];rfl,Step.toks I L t,hv⟩
theorem uK{r:Rs V}(h:r.lift σ≠.bad):r≠.bad:=λq=>h (by rw[q];rfl)
theorem zBa(hs:qV v=none)(h:asList H v=some xs):qJs v H=okH (.int xs.length) H:=by unfold qJs;rw[hs,h];rfl
theorem zNb(I:Inv P fr W σ.h s)(L:Loc P env W σ s.heap)(hv:VR W σ.n v c)(F:(qJs v σ.h).lift σ≠.bad):wpAny P.M A (call (.builtin "len") [c] []) (Post P fr env W σ s ((qJs v σ.h).lift σ)) NoE s:=by
 cases hs:qV v with
 |some x =>obtain rfl:=qH hs;refine bh hv.inv_str λt u D z=>?_;subst u;exact len_str (by have:=vG;lia -abstractProof) (wA I L rfl (.int _ _))
 |none =>refine bf (qU (λq=>uK F (by unfold qJs;rw[hs];exact q))) λxs J=>bu (zY I hv J) λa items u D N O=>?_;subst u;refine Calls.call_len_list D (by have:=vG;lia -abstractProof) (wA I L (zBa hs J) ?_);rw[<- N.length,h9];exact .int _ _
theorem qFt{f:Int->Rs V}(h:(o.elim .bad f).lift σ≠.bad):∃a,o=some a:=by
 cases o with
 |none=>exact d9 rfl h
 |some a=>exact⟨a,rfl⟩
theorem ifR [Decidable c]{a:Rs V}(h:(if c then a else .bad).lift σ≠.bad):c:=by
 by_cases q:c
 .exact q
 .rw[b6 q]at h;exact d9 rfl h
theorem yJ(I:Inv P fr W σ.h s)(L:Loc P env W σ s.heap)(D:Builtin.Range.small a b c):Post P fr env W σ s ((okH (.rng a b c) σ.h).lift σ) (.ref s.heap.objs.size) { s with heap:=s.heap.push { cls:=.type "range",data:=.fields #[.int a t,.int b u,.int c v] },toks:=k }:=
 ⟨_,_,_,rfl,Step.freeze I L { cls:=.type "range",data:=.fields #[.int a t,.int b u,.int c v] } rfl rfl rfl rfl,.rng (ax rfl rfl) D⟩
theorem qZv(I:Inv P fr W σ.h s)(L:Loc P env W σ s.heap)(J:VRs W σ.n args cargs)(D:(qCq args σ.h).lift σ≠.bad):wpAny P.M A (call (.type "range") cargs []) (Post P fr env W σ s ((qCq args σ.h).lift σ)) NoE s:=by
 cases J with
 |nil=>exact d9 rfl D
 |cons h1 r =>
  cases r with
  |nil =>obtain⟨n,e⟩:=qFt D;obtain rfl:=qI e;obtain⟨t,rfl⟩:=h1.inv_int;have F:=ifR D;show wpAny P.M A _ (Post P fr env W σ s ((if _ then _ else _:Rs V).lift σ)) NoE s;rw[d3 F];exact call_range_1 (yJ I L F)
  |cons h2 r =>
   cases r with
   |nil =>obtain⟨a,e⟩:=qFt D;obtain rfl:=qI e;obtain⟨b,e⟩:=qFt D;obtain rfl:=qI e;obtain⟨t,rfl⟩:=h1.inv_int;obtain⟨u,rfl⟩:=h2.inv_int;have F:=ifR D;show wpAny P.M A _ (Post P fr env W σ s ((if _ then _ else _:Rs V).lift σ)) NoE s;rw[d3 F];exact call_range_2 (yJ I L F)
   |cons h3 r =>
    cases r with
    |nil =>obtain⟨a,e⟩:=qFt D;obtain rfl:=qI e;obtain⟨b,e⟩:=qFt D;obtain rfl:=qI e;obtain⟨c,e⟩:=qFt D;obtain rfl:=qI e;obtain⟨t,rfl⟩:=h1.inv_int;obtain⟨u,rfl⟩:=h2.inv_int;obtain⟨v,rfl⟩:=h3.inv_int;obtain F:=ifR D;show wpAny P.M A _ (Post P fr env W σ s ((if _ then _ else _:Rs V).lift σ)) NoE s;rw[d3 F];exact call_range_3 F.1 (yJ I L F.2.2) (.inl F.2.1)
    |cons _ _=>exact d9 rfl D
theorem qWe(I:Inv P fr W σ.h s)(L:Loc P env W σ s.heap)(hL:env.locals∈fr)(hv:VR W σ.n v c)(T:VR W σ.n x d)(J:(zT v x σ.h).lift σ≠.bad):wpAny P.M A (call (.builtin "list.append") [c,d] []) (Post P fr env W σ s ((zT v x σ.h).lift σ)) NoE s:=by
 refine bC λN=>?_;obtain⟨k,xs,rfl,D,u⟩:=qGi (λq=>uK J q);obtain⟨rfl,hk⟩:=hv.inv_ref;rw[yQ D u]at N;obtain⟨_,U,hg,O⟩:=I.o _ _ D;obtain⟨items,e,rfl,r,z⟩:=O.inv_list;refine N (oZ oE ⟨_,hg,rfl⟩ nO (PySem.F.args_list_append_2 _ _) (list_append _ items e d z) ⟨hg,?_⟩);refine⟨_,σ.put k (.list (xs++[x])),W,rfl,Step.put I L hk hL (.list (xs++[x])) (.list (e:=_) ?_ ?_) (λb o S e=>((iS ..).2 b S).trans e) (IsL.update (n:=e) hg (λxs=>xs.push d)) rfl rfl,.none⟩
 .rw[mG];exact r.append (.cons T .nil)
 .have:=r.length;rw[h9]at this;rw[size_push];simp[u,this]
def hX:List V->Option (List Str)
 | []=>some []
 |v::r=>(qV v).bind λx=>(hX r).map (x::·)
noncomputable def wG(x:Str):Bool:=decide (x.length<=j0)&&bS x
def qKj(a b c:V)(H:Hp):Rs V:=(qV a).elim .bad λx=>(qV b).elim .bad λy=>(qZ c).elim .bad λi=>okH (.int (dF x y i)) H
def qWy(v:V)(H:Hp):Rs V:=(asList H v).elim .bad λxs=>okH (.tup xs) H
def vO(x y:Str):Bool:=(y.length==1)&&decide ((Builtin.Str.partsBetween x (eO x y 0 x.length (x.length+1)) y.length).length<=j0)&&decide ((mV x y).length<=j0)&&(mV x y).all wG
def hY(a b:V)(H:Hp):Rs V:=(qV a).elim .bad λx=>(qV b).elim .bad λy=>if vO x y then okH (.list ((mV x y).map .str)) H else .bad
theorem xY{α:Type}{o:Option α}{f:α->Rs V}(h:(o.elim .bad f).lift σ≠.bad):∃a,o=some a/\(f a).lift σ≠.bad:=by
 cases o with
 |none=>exact d9 rfl h
 |some a=>exact⟨a,rfl,h⟩
theorem zIe(I:Inv P fr W σ.h s)(L:Loc P env W σ s.heap){a b i:V}{c d e:j7}(J:VR W σ.n a c)(N:VR W σ.n b d)(hi:VR W σ.n i e)(u:(qKj a b i σ.h).lift σ≠.bad):wpAny P.M A (call (.builtin "str.find") [c,d,e] []) (Post P fr env W σ s ((qKj a b i σ.h).lift σ)) NoE s:=by
 unfold qKj at u ⊢;refine ae (xY u) λx e1 u=>?_;rw[e1];refine ae (xY u) λy e2 u=>?_;rw[e2];refine ae (xY u) λj F u=>?_;rw[F];obtain rfl:=qH e1;clear u;obtain rfl:=qH e2;clear u;obtain rfl:=qI F;refine ae J.inv_str λq D q=>?_;subst D;refine ae N.inv_str λq D q=>?_;subst D;refine bf hi.inv_int λq D=>?_;subst D;exact SC.find3 (wA I L rfl (.int ..))
theorem zLg(I:Inv P fr W σ.h s)(L:Loc P env W σ s.heap)(hv:VR W σ.n v c)(u:(qWy v σ.h).lift σ≠.bad):wpAny P.M A (call (.type "tuple") [c] []) (Post P fr env W σ s ((qWy v σ.h).lift σ)) NoE s:=by
 unfold qWy at u ⊢;refine ae (xY u) λxs e u=>?_;rw[e];refine bu (zY I hv e) λa items D J O F=>?_;subst D;refine call_tuple_list J (λN hk=>?_) F;obtain st:Step P fr env W σ s W σ { s with heap:=N }:=Step.grow I L hk rfl rfl;exact Post.after st (qFe (items:=items) st.inv st.l O F rfl rfl rfl)
theorem qXn:∀{xs:List V}{cs:Lv}{u:List Str},VRs W n xs cs->hX xs=some u->∃l:List (Str×Tok),cs=strValues l/\l.map (·.1)=u:=by
 intro J;induction J with
 |nil =>intro _ u h e;obtain rfl:=h.inv_nil;subst e;exact⟨[],rfl,rfl⟩
 |cons x r L =>intro _ u h e;refine bi h.inv_cons λc S D N F=>?_;subst D;obtain⟨y,e1,e2⟩:=pz e;obtain⟨O,I,rfl⟩:=qb e2;obtain rfl:=qH e1;obtain⟨t,rfl,_⟩:=N.inv_str;obtain⟨l,rfl,rfl⟩:=L F I;exact⟨(y,t)::l,rfl,rfl⟩
theorem qSn:∀{l:List (Str×Tok)},(l.map (·.1)).all wG->VRs W n ((l.map (·.1)).map .str) (strValues l):=by
 intro D;induction D with
 |nil=>exactλq=>.nil
 |cons zp r u =>obtain⟨x,t⟩:=zp;intro h;rw[fX,dS,i6]at h;obtain h1:=h.1;unfold wG at h1;rw[i6,n8]at h1;exact .cons (.str x t h1.1 h1.2) (u h.2)
theorem qAa(I:Inv P fr W σ.h s)(L:Loc P env W σ s.heap)(J:l.map (·.1)=u)(F:u.all wG)(D:u.length<=j0):Post P fr env W σ s ((okH (.list (u.map .str)) σ.h).lift σ) (.ref s.heap.objs.size) { s with heap:=s.heap.push { cls:=.type "list",data:=.seq (strValues l).toArray },toks:=k }:=by
 subst J;refine jJ (items:=(strValues l).toArray) I L (qSn F) ?_ rfl rfl rfl;obtain h1:(strValues l).length=l.length:=m8 ..;rw[s8,h1];rw[m8]at D;exact D
theorem qXs(I:Inv P fr W σ.h s)(L:Loc P env W σ s.heap)(Z:VR W σ.n a c)(U:VR W σ.n b d)(D:(hY a b σ.h).lift σ≠.bad):wpAny P.M A (call (.builtin "str.split") [c,d] []) (Post P fr env W σ s ((hY a b σ.h).lift σ)) NoE s:=by
 unfold hY at D ⊢;refine ae (xY D) λx e1 D=>?_;rw[e1];refine ae (xY D) λy e2 D=>?_;rw[e2];obtain rfl:=qH e1;obtain rfl:=qH e2;refine bh Z.inv_str λt J hx q=>?_;subst J;refine ae U.inv_str λu J q=>?_;subst J;by_cases N:vO x y=true
 .show wpAny _ _ _ (Post P fr env W σ s ((if _ then _ else _:Rs V).lift σ)) _ _;rw[d3 N];unfold vO at N;simp only[i6,n8,w6]at N;obtain⟨⟨⟨Y,X⟩,T⟩,S⟩:=N;obtain hy:(y.length==0)=false:=by rw[Y];rfl
  cases h1:(decide (x.length<y.length)||decide (pW x<pW y))with
  |true=>exact oZ gX (eG _ _ _) lH (iW _ _) (meets_str_split_cannot_occur x y t u h1) (qAa (l:=[(x,t)]) I L (d3 h1).symm S T)
  |false =>
   cases O:(eO x y 0 x.length (x.length+1)).isEmpty with
   |true=>exact oZ gX (eG _ _ _) lH (iW _ _) (meets_str_split_not_found x y t u h1 hy O) (qAa (l:=[(x,t)]) I L ((b6 (mO h1)).trans (d3 O)).symm S T)
   |false =>refine oZ gX (eG _ _ _) lH (iW _ _) (meets_str_split_sep x y t u h1 hy O hx X) ?_;rw[strsFrom_eq];exact qAa (l:=numbered s.toks _) I L ((numbered_texts _ _).trans ((b6 (mO h1)).trans (b6 (mO O))).symm) S T
 .exact d9 (g0 (λr:Rs V=>r.lift σ) (b6 N)) D
def qDg(D v:V)(H:Hp):Rs V:=(qV D).elim .bad λsp=>((asList H v).bind hX).elim .bad λu =>
 if(JoinOk sp u&&wG (nF sp u))=true then okH (.str (nF sp u)) H else .bad
theorem zHl(I:Inv P fr W σ.h s)(L:Loc P env W σ s.heap)(hs:VR W σ.n sp c)(hv:VR W σ.n v d)(u:(qDg sp v σ.h).lift σ≠.bad):wpAny P.M A (call (.builtin "str.join") [c,d] []) (Post P fr env W σ s ((qDg sp v σ.h).lift σ)) NoE s:=by
 unfold qDg at u ⊢;refine ae (xY u) λN e1 u=>?_;rw[e1];refine ae (xY u) λts e2 u=>?_;rw[e2];obtain rfl:=qH e1;refine ae hs.inv_str λt D q=>?_;subst D;refine px e2 λxs Z Y=>bu (zY I hv Z) λa items D U T hz=>?_;subst D;refine ae (qXn T Y) λl X D=>?_;subst D;by_cases O:(JoinOk N (l.map (·.1))&&wG (nF N (l.map (·.1))))=true
 .show wpAny _ _ _ (Post P fr env W σ s ((if _ then _ else _:Rs V).lift σ)) _ _;rw[d3 O];rw[i6]at O;obtain⟨S,J⟩:=O;unfold wG at J;rw[i6,n8]at J;exact oZ pI (eG _ _ _) PySem.F.entry_str_join (PySem.F.args_str_join_2 _ _) (meets_str_join_list N t a l (by have:=S;unfold JoinOk at this;simpa using this)) ⟨(by rw[<- X,Array.toArray_toList];exact U),post_join l ⟨J.1,λt' k=>wA I L rfl (.str _ _ J.1 J.2)⟩⟩
 .exact d9 (g0 (λr:Rs V=>r.lift σ) (b6 O)) u
theorem slot_md_get:Slot "method_descriptor" "__get__" "method_descriptor.__get__":=
 .of (owner:="method_descriptor") (n:="__get__") (by rw[dV,w3];kernel_rfl) pw pw pw
  (by first|exact .inl (by decide +kernel)|exact .inr (by decide +kernel)) (by rw[iC];kernel_rfl)
theorem qHv:entryFor table "method_descriptor.__get__"=some Builtin.«method_descriptor.__get__»:=lZ (by kernel_rfl)
theorem qLi(a b c:j7):argsOk "method_descriptor.__get__" ⟨[a,b,c],[]⟩:=by kernel_rfl
theorem qUl:typeLookup (.type "method_descriptor") "__set__"=pure none:=by rw[dV,w3];kernel_rfl
theorem qHh:typeLookup (.type "method_descriptor") "__delete__"=pure none:=by rw[dV,w3];kernel_rfl
theorem qIi:Manifest.toldItsClass.contains "list.append"=false:=pw
section
variable{prog:iY}{w:World}{A:w4}{E:Pv}{h:nZ}{g:Array GenState}{d:Drawn}{t:Nat}{os:OsState}{a:Addr}{o:Obj}
theorem zBi(hc:c=false)(h:wpAny M A y Q E s):wpAny M A (if c then x else y) Q E s:=by subst hc;exact h
theorem qZo(u:h.get? a=some o)(hc:o.cls=.type "list")(D:Q (.done (.ret (.ref h.objs.size))) ⟨h.push (zM a),g,d,t,os⟩):wpAny (model prog w) A (Builtin.«method_descriptor.__get__» ⟨[.builtin "list.append",.ref a,.type "list"],[]⟩) Q E ⟨h,g,d,t,os⟩:=by
 unfold Builtin.«method_descriptor.__get__»;refine d8 (cB (a:=(.builtin "list.append",some (.ref a),some (.type "list"))) (by first|rfl|kernel_rfl) ?_);refine zBi qIi (d8 ?_);wp_delta;refine d8 (cB (a:=(("append":Str),Value.type "list")) (by first|rfl|kernel_rfl) ?_);refine d8 (oK (⟨_,u,hc⟩) (by rw[iC];kernel_rfl:isSubtype (.type "list") (.type "list")=pure true) ?_);refine zBi rfl (g7 ?_);refine d8 ?_;exact fQ (g7 D) (by show(2:Nat)<=j0+2;decide)
theorem qUj(u:h.get? a=some o)(hc:o.cls=.type "list")(D:R (.ok (.ret (.ref h.objs.size))) ⟨h.push (zM a),g,d,t,os⟩):codeAny (model prog w) A (.call (.builtin "method_descriptor.__get__") ⟨[.builtin "list.append",.ref a,.type "list"],[]⟩) R ⟨h,g,d,t,os⟩:=mH slot_md_get.plain qHv (slot_md_get.check _ _ _ _ _ _ _ _ nG (qLi _ _ _) (qZo u hc D))
variable{xs:Array j7}{k:Nat}
theorem qIa(u:h.get? a=some (rK xs k))(I:Q (.done (.ret (.ref h.objs.size))) ⟨h.push (zM a),g,d,t,os⟩):wpAny (model prog w) A (Builtin.«object.__getattribute__» ⟨[.ref a,.str "append" D],[]⟩) Q E ⟨h,g,d,t,os⟩:=by
 obtain hT:(⟨h,g,d,t,os⟩:g6).TypeIs (.ref a) "list":= ⟨_,u,rfl⟩
 obtain hT5:(⟨h,g,d,t,os⟩:g6).TypeIs (.builtin "list.append") "method_descriptor":= nG;obtain f4:=F.slot_list_append.lookup;obtain f5:=nG;obtain f6:=slot_md_get.lookup;obtain f7:=qUl;obtain f8:=qHh;repeat (any_goals (first|assumption|wp_step))
 refine qUj u rfl ?_;repeat (any_goals (first|assumption|wp_step))
theorem qLk(u:h.get? a=some (rK xs k))(I:R (.ok (.ret (.ref h.objs.size))) ⟨h.push (zM a),g,d,t,os⟩):codeAny (model prog w) A (.call (.builtin "list.__getattribute__") ⟨[.ref a,.str "append" D],[]⟩) R ⟨h,g,d,t,os⟩:=
 mH F.slot_list_getattribute.plain F.entry_list_ga (F.slot_list_getattribute.check _ _ _ _ _ _ _ _ (⟨_,u,rfl⟩) (F.args_list_getattribute_2 _ _) (qIa u I))
theorem qPd{Q:Pv}(D:h.get? a=some (rK xs k))(I:Q (.ref h.objs.size) ⟨h.push (zM a),g,d,t+1,os⟩):wpAny (model prog w) A (getAttr (.ref a) "append" true) Q E ⟨h,g,d,t,os⟩:=by
 obtain f2:=F.slot_list_getattribute.lookup;obtain f3:=F.slot_list_getattribute.bind (.ref a);repeat (any_goals (first|assumption|exact(λq=>⟨_,D,rfl⟩:∀u,(⟨h,g,d,u,os⟩:g6).TypeIs (.ref a) "list") _|wp_step))
 refine qLk D ?_;repeat (any_goals (first|assumption|wp_step))
end
noncomputable def zRe:Manifest.Signature:=(iR "list.append").getD ⟨.keywords,"","",.self,[]⟩
theorem qMn:iR "list.append"=some zRe:=by kernel_rfl
theorem qJu:builtinKind "list.append"=some .method:=by kernel_rfl
theorem qGy:(Code.builtin "list.append" as).quiet:=Code.quiet_builtin _ pw
section
variable{prog:iY}{w:World}{A:w4}{E:Pv}{s:g6}{M:Model}{a b:Addr}{x:j7}{xs:Array j7}{k:Nat}
theorem qVr(u:s.heap.get? a=some (rK xs k))(D:Q () s):wpAny M A (checkBoundCall "list.append" ⟨[.ref a,x],[]⟩) Q E s:=by
 obtain hT:s.TypeIs (.ref a) "list":= ⟨_,u,rfl⟩
 unfold checkBoundCall;rw[qMn,qJu];dsimp only;rw[zX1];refine d8 (oK (b:=false) hT (by rw[iC];kernel_rfl) ?_);rw[b6 pw];refine d8 (d8 (iD u (g7 ?_)));rw[b6 (λq=>zF1 q)];exact d8 (wpAny_typeOf hT (cB (a:=()) (by first|rfl|kernel_rfl) D))
theorem zCx{Q:Pv}(I:s.heap.get? b=some (zM a))(u:s.heap.get? a=some (rK xs k))(J:xs.size+1<=j0)(D:Q .none { s with heap:=s.heap.update a (Obj.mapSeq λl=>l.push x) }):wpAny (model prog w) A (call (.ref b) [x] []) Q E s:=by
 refine mX (codeAny_of_tree (d8 (iD I ?_)));show wpAny _ _ (if(Value.type "builtin_function_or_method"==Value.type "method"||Value.type "builtin_function_or_method"==Value.type "builtin_function_or_method"||Value.type "builtin_function_or_method"==Value.type "method-wrapper")=true then _ else _) _ _ _;rw[d3 pi];show wpAny _ _ (if(Value.type "builtin_function_or_method"!=Value.type "method")then _ else _) _ _ _;rw[d3 pi];refine d8 (qVr u (d8 (g7 (g7 ?_))));exact⟨qGy,codeAny_builtin nO (PySem.list_append _ xs k x (m9 J) prog w A (wants Q E) s ⟨u,D⟩)⟩
theorem qUq(D:s.heap.get? b=some (zM a)):yD M A (.ref b) s:=λE Q u=>d8 (iD D (g7 (u _)))
end
def zDd(v:V)(H:Hp):Rs V:=(qCt H v).elim .bad λq=>okH (.bnd q.1) H
theorem VR.inv_bnd(h:VR W n (.bnd k) c):∃b,c=.ref b/\k<n/\W.fz b=some (zM (W.ρ k)):=h.dat
theorem zNy(I:Inv P fr W σ.h s)(L:Loc P env W σ s.heap)(hL:env.locals∈fr)(hv:VR W σ.n (.bnd k) c)(S:VR W σ.n x d)(J:(zT (.ref k) x σ.h).lift σ≠.bad):wpAny P.M A (call c [d] []) (Post P fr env W σ s ((zT (.ref k) x σ.h).lift σ)) NoE s:=by
 refine bC λN=>?_;obtain⟨b,rfl,hk,D⟩:=hv.inv_bnd;obtain⟨_,xs,e0,F,u⟩:=qGi (λq=>uK J q);injection e0 with e0;subst e0
 rw[yQ F u]at N;obtain⟨_,T,hg,O⟩:=I.o _ _ F;obtain⟨items,e,rfl,r,z⟩:=O.inv_list;obtain hlen:=r.length;rw[h9]at hlen;refine N (zCx (I.frz _ _ D).1 hg (by simp[u,hlen]) (⟨_,σ.put k (.list (xs++[x])),W,rfl,Step.put I L hk hL (.list (xs++[x])) (.list (e:=_) ?_ ?_) (λb o D e=>((iS ..).2 b D).trans e) (IsL.update (n:=e) hg (λxs=>xs.push d)) rfl rfl,.none⟩))
 .rw[mG];exact r.append (.cons S .nil)
 .rw[size_push];simp[u,hlen]
theorem zJe(I:Inv P fr W σ.h s)(L:Loc P env W σ s.heap)(hv:VR W σ.n v c)(u:(zDd v σ.h).lift σ≠.bad):wpAny P.M A (getAttr c "append" true) (Post P fr env W σ s ((zDd v σ.h).lift σ)) NoE s:=by
 refine bC λD=>?_;obtain⟨⟨k,xs⟩,e⟩:=qU (λq=>uK u q);obtain⟨rfl,J⟩:=vR e;obtain⟨rfl,hk⟩:=hv.inv_ref;rw[(by show(qCt σ.h (.ref k)).elim Rs.bad _=_;rw[e];rfl:zDd (.ref k) σ.h=okH (.bnd k) σ.h)]at D;obtain⟨_,N,hg,F⟩:=I.o _ _ J;obtain⟨items,e,rfl,r,z⟩:=F.inv_list;obtain⟨h,g,d,t,os⟩:=s;exact D (qPd hg (⟨_,_,_,rfl,(Step.freeze (s':={ heap:=h.push (zM (W.ρ k)),gens:=g,drawn:=d,toks:=t+1,os:=os }) I L (zM (W.ρ k)) rfl rfl rfl rfl),.bnd hk (by refine ax rfl ?_;rfl)⟩))
end Mine.Lake
namespace Mine.Lake
open PySem PySem.W PyProof.Rows Mine.Lake.Re
def zBk:List V->Option (List Int)
 | []=>some []
 | [a]=>(qZ a).map λi=>[i]
 | [a,b]=>(qZ a).bind λi=>(qZ b).map λl=>[i,l]
 |_=>none
def uD(u:List Int):Bool:=decide (-(2 ^ 63)<=xV u)&&decide (xV u<2 ^ 63)&&decide (-(2 ^ 63)<=xW u)&&decide (xW u<2 ^ 63)
noncomputable def mtV:Option (Nat×Nat)->V
 |some (p,e)=>.mt p e
 |none=>.none
def kR(code:Array Nat)(x:Str)(u:List Int)(H:Hp):Rs V :=
 if uD u then(qS code x.cps (min (xV u).toNat x.cps.size) (min (xW u).toNat x.cps.size)).elim .bad λr=>okH (mtV r) H else .bad
def qAd(code:Array Nat)(args:List V)(H:Hp):Rs V:=match args with
 |a::r=>(qV a).elim .bad λx=>(zBk r).elim .bad λu=>kR code x u H
 |_=>.bad
def zIt(v:V)(H:Hp):Rs V:=(zHb v).elim .bad λx=>okH (.int x.2) H
noncomputable def kF(x y:Str)(u hi:Nat):Int:=match eO x y u hi 1 with|k::_=>(k:Int)| []=>-1
def vI(f:Str->Str->Nat->Nat->Int)(a b c d:V)(H:Hp):Rs V :=
 (qV a).elim .bad λx=>(qV b).elim .bad λy=>(qZ c).elim .bad λi=>(qZ d).elim .bad λj=>okH (.int (f x y (upTo x.length i) (min (upTo x.length j) x.length))) H
theorem qSe:Gives (Builtin.«str.find» ⟨[.str x t,.str y u,.int i v,.int j v'],[]⟩) (.int (kF x y (upTo x.length i) (min (upTo x.length j) x.length))):=by
 show Gives (match eO x y (upTo x.length i) (min (upTo x.length j) x.length) 1 with|k::_=>retInt k| []=>(do rule "str.find.not-found";retInt (-1))) _;unfold kF;cases eO x y (upTo x.length i) (min (upTo x.length j) x.length) 1 with
 |nil=>exact .rule (.of_eq rfl)
 |cons k _=>exact .of_eq rfl
section
variable{P:Par}{fr:Ln}{W:Wd}{σ:St}{s:g6}
theorem qNu(h:VR W n v c)(e:qZ v=some i):∃t,c=.int i t:=by rw[qI e]at h;exact h.inv_int
theorem qUs(h:VRs W n args cs)(e:zBk args=some D):IntArgs D cs:=by
 cases h with
 |nil=>subst e;exact .nil
 |cons a r=>cases r with
  |nil =>obtain⟨i,h1,rfl⟩:=qb (e);obtain⟨t,rfl⟩:=qNu a h1;exact .one _ _
  |cons b r=>cases r with
   |nil =>obtain⟨i,h1,h2⟩:=pz (e);obtain⟨l,h3,rfl⟩:=qb h2;obtain⟨t,rfl⟩:=qNu a h1;obtain⟨u,rfl⟩:=qNu b h3;exact .two _ _ _ _
   |cons _ _=>exact zN1 e
theorem zKk(I:Inv P fr W σ.h s)(h:VR W σ.n (.mt p e) c):∃a o,c=.ref a/\MatchAt s.heap a p e/\s.heap.get? a=some o/\o.cls=.type "re.Match"/\o.dict=none:=by obtain⟨_,_,_,_,_,_,_,_,_,rfl,h1,h2,h3,h4,h5,D,F,u⟩:=h.dat;exact⟨_,_,rfl,⟨_,_,_,_,_,_,_,_,(I.frz _ _ h1).1,h2,h3,h4,(I.frz _ _ h5).1,D,F⟩,(I.frz _ _ h1).1,h2,u⟩
theorem jK{r:Rs V}(h:r.lift σ≠.bad):r≠.bad:=λq=>h (by rw[q];rfl)
theorem qDn(I:Inv P fr W σ.h s)(L:Loc P env W σ s.heap):Post P fr env W σ s ((okH (.mt p e) σ.h).lift σ) (.ref (s.heap.objs.size+1)) { s with heap:=(s.heap.push (jB p e)).push (kP x t u s.heap.objs.size D hi) }:=by obtain a8:=Step.freeze (s':={ s with heap:=s.heap.push (jB p e) }) I L (jB p e) rfl rfl rfl rfl;obtain aA:=Step.freeze (s':={ s with heap:=(s.heap.push (jB p e)).push (kP x t u s.heap.objs.size D hi) }) a8.inv a8.l (kP x t u s.heap.objs.size D hi) rfl rfl rfl rfl;refine⟨_,_,_,rfl,a8.trans aA,?_⟩;simp only[<- (lO .. :(s.heap.push (jB p e)).objs.size=s.heap.objs.size+1)];refine .mt (o:=kP x t u s.heap.objs.size D hi) (ot:=jB p e) (ax rfl rfl) rfl rfl rfl (aA.nx.wle.fz _ _ (ax rfl rfl)) rfl rfl rfl
theorem zAm{code:Array Nat}{b U:Addr}(Z:P.B.get? b=some (boundObj "re.Pattern.match" U))(hp:PatAt P.B U code)(I:Inv P fr W σ.h s)(L:Loc P env W σ s.heap){args:List V}{cargs:Lv}(S:VRs W σ.n args cargs)(D:(qAd code args σ.h).lift σ≠.bad):wpAny P.M A (call (.ref b) cargs []) (Post P fr env W σ s ((qAd code args σ.h).lift σ)) NoE s:=by
 obtain hne':=jK D;cases args with
 |nil=>exact d9 rfl D
 |cons v r =>
 refine bi S.inv_cons λc cs O h1 h2=>?_;subst O;refine bC λu=>?_;obtain⟨x,ex⟩:=zD (hne');clear S;obtain rfl:=qH ex.1;obtain⟨N,hi⟩:=zD (hne');refine u ?_;have Y:qAd code (.str x::r) σ.h=kR code x N σ.h:=by show(zBk r).elim Rs.bad _=_;rw[hi.1];rfl
 rw[Y]at D hne' ⊢;refine bC λu=>?_;obtain⟨t,rfl,hl,hs⟩:=h1.inv_str;refine u ?_;obtain hia:=qUs h2 hi.1;unfold kR at D hne' ⊢;by_cases F:uD N=true
 .rw[d3 F]at hne' ⊢;refine bC λu=>?_;obtain⟨q,T⟩:=zD hne';refine u ?_;rw[T.1];unfold uD at F;rw[i6,i6,i6]at F;refine bC λu=>?_;obtain⟨⟨⟨r1,r2⟩,r3⟩,X⟩:=F;obtain⟨op,fs,ct,p1,p2,p3,p4,p5,p6,oc,items,e,p7,p8,p9⟩:=hp.at_;refine u (qOu (I.keep _ _ Z) ⟨op,fs,ct,I.keep _ _ p1,p2,p3,p4,p5,p6,oc,items,e,I.keep _ _ p7,p8,p9⟩ hia (j6 r1) (j6 r2) (j6 r3) (j6 X) T.1 (λp e J=>?_) λJ=>?_)
  .subst J;exact qDn I L
  .subst J;exact⟨_,_,W,rfl,Step.refl I L,.none⟩
 .exact d9 (b6 F) hne'
theorem end_ok(I:Inv P fr W σ.h s)(L:Loc P env W σ s.heap)(hv:VR W σ.n v c)(D:(zIt v σ.h).lift σ≠.bad):wpAny P.M A (call (.builtin "re.Match.end") [c] []) (Post P fr env W σ s ((zIt v σ.h).lift σ)) NoE s:=by
 refine bf (qU (jK D)) λx F=>?_;obtain rfl:=qFf F;refine bi (zKk I hv) λa o u X q=>?_;subst u;exact zCv X (wA I L rfl (.int _ _))
theorem qFb{f:Str->Str->Nat->Nat->Int}{a b c d:V}{H:Hp}(u:vI f a b c d H≠.bad):∃x y i j,a=.str x/\b=.str y/\c=.int i/\d=.int j/\vI f a b c d H=okH (.int (f x y (upTo x.length i) (min (upTo x.length j) x.length))) H:=by refine ae (zD (u)) λx e1 q=>?_;obtain rfl:=qH e1;refine ae (zD (show(qV b).elim Rs.bad _≠.bad from u)) λy e2 q=>?_;obtain rfl:=qH e2;refine ae (zD (show(qZ c).elim Rs.bad _≠.bad from u)) λi F q=>?_;obtain rfl:=qI F;refine ae (zD (show(qZ d).elim Rs.bad _≠.bad from u)) λj D q=>?_;clear u;obtain rfl:=qI D;exact⟨x,y,i,j,rfl,rfl,rfl,rfl,rfl⟩
theorem VRs.inv4(h:VRs W n [x,y,z,u] cs):∃c d e f,cs=[c,d,e,f]/\VR W n x c/\VR W n y d/\VR W n z e/\VR W n u f:=by refine bi h.inv_cons λc L D a b=>?_;subst D;refine bi b.inv_cons λd es D I c'=>?_;subst D;refine bi c'.inv2 λe f D J F=>?_;subst D;exact⟨c,d,e,f,rfl,a,I,J,F⟩
theorem qZq(I:Inv P fr W σ.h s)(L:Loc P env W σ s.heap){a b c d:V}{cargs:Lv}(N:VRs W σ.n [a,b,c,d] cargs)(D:(vI jI a b c d σ.h).lift σ≠.bad):wpAny P.M A (call (.builtin "str.rfind") cargs []) (Post P fr env W σ s ((vI jI a b c d σ.h).lift σ)) NoE s:=by
 refine cn N.inv4 λU S X T u h1 h2 h3 h4=>?_;subst u;refine cn (qFb (jK D)) λx y i j u J F O e=>?_;subst u;subst J;subst F;subst O;rw[e];clear N D;obtain⟨_,rfl,_⟩:=h1.inv_str;obtain⟨_,rfl,_⟩:=h2.inv_str;obtain⟨_,rfl⟩:=h3.inv_int;obtain⟨_,rfl⟩:=h4.inv_int;exact qOt (wA I L rfl (.int _ _))
theorem zBx(I:Inv P fr W σ.h s)(L:Loc P env W σ s.heap){a b c d:V}{cargs:Lv}(O:VRs W σ.n [a,b,c,d] cargs)(D:(vI kF a b c d σ.h).lift σ≠.bad):wpAny P.M A (call (.builtin "str.find") cargs []) (Post P fr env W σ s ((vI kF a b c d σ.h).lift σ)) NoE s:=by
 refine cn O.inv4 λX T Y U u h1 h2 h3 h4=>?_;subst u;refine cn (qFb (jK D)) λx y i j u N J S e=>?_;subst u;subst N;subst J;subst S;rw[e];clear O D;obtain⟨_,rfl,_⟩:=h1.inv_str;obtain⟨_,rfl,_⟩:=h2.inv_str;obtain⟨_,rfl⟩:=h3.inv_int;obtain⟨_,rfl⟩:=h4.inv_int;exact call_gives pJ (eG s x _) PySem.F.entry_str_find (PySem.F.args_str_find_4 _ _ _ _) qSe (wA I L rfl (.int _ _))
end
noncomputable def expL(n:Nat):Nat->Ln->Ln
 |_,[]=>[]
 |col,c::l=>if c=9 then replicate (n-col%n) 32++expL n (col+(n-col%n)) l else c::expL n (if c=10\/c=13 then 0 else col+1) l
def expandT(n:Nat)(x:Str):Str:=⟨(expL n 0 x.cps.toList).toArray⟩
def tabOk(x:Str)(i:Int):Bool:=decide (0<i)&&decide (i<2 ^ 31)&&decide ((expandT i.toNat x).length<=j0)&&bS (expandT i.toNat x)
def tabsB(a b:V)(H:Hp):Rs V:=(qV a).elim .bad λx=>(qZ b).elim .bad λi=>if tabOk x i then okH (.str (expandT i.toNat x)) H else .bad
theorem qOf:entryFor table "str.expandtabs"=some Builtin.«str.expandtabs»:=lZ (by kernel_rfl)
theorem zIh:∀{l:Ln}{col:Nat},9∉l->expL n col l=l:=by
 intro D;induction D with
 |nil=>exact@λz z=>rfl
 |cons c l u =>intro col h;show(if c=9 then _ else c::_)=_;rw[b6 (λq=>h (q ▸ .head _):c≠9),u λq=>h (.tail _ q)]
def TbI(n:Nat)(s:g6)(all rest:Ln)(b:Array Nat×Nat)(s':g6):Prop:=b.1.toList++expL n b.2 rest=expL n 0 all/\s'=s
section
variable{prog:iY}{w:World}{A:w4}{E:Pv}{s:g6}
theorem qSd(h:tabOk x i)(F:∀t' k,Q (.done (.ret (.str (expandT i.toNat x) t'))) { s with toks:=k }):wpAny (model prog w) A (Builtin.«str.expandtabs» ⟨[.str x t,.int i u],[]⟩) Q E s:=by
 unfold tabOk at h;rw[i6,i6,i6]at h;obtain⟨⟨⟨h1,h2⟩,h3⟩,h4⟩:=h;have h1:=j6 h1;have h2:=j6 h2;have h3:=j6 h3;unfold Builtin.«str.expandtabs»;refine d8 (cB (a:=(.str x t,x,[.int i u])) rfl (d8 (cB (a:=[some (.int i u)]) rfl ?_)));dsimp only;refine d8 (cB (a:=i) rfl ?_);rw[b6 (by simp;omega)];by_cases hc:x.cps.contains 9=true
 .rw[b6 (by simpa using hc)];obtain hlen:(expL i.toNat 0 x.cps.toList).length<=j0:=by
   have:(expandT i.toNat x).length=(expL i.toNat 0 x.cps.toList).length:=by show(expL i.toNat 0 x.cps.toList).toArray.size=_;rw[s8]
   rw[<- this];exact h3
  refine d8 (j9 (Q:=λb s'=>TbI i.toNat s x.cps.toList [] b s') ?_ ?_ λy y z=>z)
  .refine lJ _ (TbI i.toNat s x.cps.toList) _ ?_ (λb s' h=>h) x.cps _ ⟨rfl,rfl⟩;rintro c rest ⟨out,col⟩ s' ⟨e1,rfl⟩;dsimp only at e1 |-;by_cases D:c=9
   .have e2:expL i.toNat col (c::rest)=replicate (i.toNat-col%i.toNat) 32++expL i.toNat (col+(i.toNat-col%i.toNat)) rest:=d3 D;rw[e2]at e1;rw[d3 (by simpa using D),d3 h1];rw[b6 (by unfold iT;simpa using(by
     rw[<- e1,g8,g8,gC,h9]at hlen
     omega))]
    refine g7 ⟨?_,rfl⟩;rw[mB,u3,<- e1];simp
   .have e2:expL i.toNat col (c::rest)=c::expL i.toNat (if c=10\/c=13 then 0 else col+1) rest:=b6 D;rw[e2]at e1;rw[b6 (by simpa using D)];refine g7 ⟨?_,rfl⟩;rw[(by
     by_cases q:c=10\/c=13
     .rw[d3 q,d3 (by simpa using q)]
     .rw[b6 q,b6 (by simpa using q)]:(if(c==10||c==13)=true then 0 else col+1)=(if c=10\/c=13 then 0 else col+1)),mG,u3]
    exact e1
  .rintro⟨out,col⟩ s' ⟨e1,rfl⟩;rw[(g0 Str.mk (Array.toList_inj.mp ((by rw[<- e1];exact(eF _).symm:out.toList=expL i.toNat 0 x.cps.toList))))];exact d8 (wpAny_mkStr (g7 (F _ _)) h3)
 .rw[d3 (by simpa using hc)];refine d8 (rA (d8 (cB (a:=.str x t) rfl (g7 ?_))));have:=F t s.toks;rw[(by
   unfold expandT
   rw[zIh (by rw[Array.mem_toList_iff];simpa using hc)]:expandT i.toNat x=x)]at this
  exact this
theorem qVt(h:tabOk x i){Q:Pv}(D:∀t' k,Q (.str (expandT i.toNat x) t') { s with toks:=k }):wpAny (model prog w) A (call (.builtin "str.expandtabs") [.str x t,.int i u]) Q E s :=
 iN mS (eG s x t) qOf (qSd h λt' k=>⟨_,rfl,D t' k⟩) (PySem.F.args_str_expandtabs_2 _ _)
end
namespace Re
theorem yL:PlainAttrs "re.Pattern":=
 ⟨⟨"object.__getattribute__",by rw[dV,w3];kernel_rfl,pw⟩,by rw[dV,w3];kernel_rfl⟩
theorem qCg:Slot "re.Pattern" "match" "re.Pattern.match":=
 .of (owner:="re.Pattern") (n:="match") (by rw[dV,w3];kernel_rfl) pw pw pw
  (by first|exact .inl (by decide +kernel)|exact .inr (by decide +kernel)) (by rw[iC];kernel_rfl)
theorem qLq:typeOf (.builtin "re.Pattern.match")=pure (.type "method_descriptor"):=by show builtinType _=_;rw[builtinType_eq_fast];kernel_rfl
theorem qPc(a b:j7):argsOk "re.Pattern.match" ⟨[a,b],[]⟩:=by unfold argsOk;rw[qEu];kernel_rfl
end Re
noncomputable def bs7C:Array Nat:=#[14,4,0,1,4294967295,24,9,0,4294967295,13,4,8,12,0,1,16,92,1]
def qZy(a:Addr):Option (Array Nat):=if a=73 then some bs7C else none
def uE(code:Array Nat)(v:V)(H:Hp):Rs V:=(qV v).elim .bad λx=>kR code x [] H
theorem zEo(I:Inv P fr W σ.h s)(L:Loc P env W σ s.heap){a b:V}{c d:j7}(J:VR W σ.n a c)(N:VR W σ.n b d)(F:(tabsB a b σ.h).lift σ≠.bad):wpAny P.M A (call (.builtin "str.expandtabs") [c,d] []) (Post P fr env W σ s ((tabsB a b σ.h).lift σ)) NoE s:=by
 obtain hne':=jK F;refine ae (zD (hne')) λx e1 q=>?_;clear F;obtain rfl:=qH e1;refine ae (zD (show(qZ b).elim Rs.bad _≠.bad from hne')) λi e2 q=>?_;obtain rfl:=qI e2;obtain e3:tabsB (.str x) (.int i) σ.h=if tabOk x i then okH (.str (expandT i.toNat x)) σ.h else .bad:=rfl;rw[e3]at hne' ⊢;by_cases h:tabOk x i=true
 .rw[d3 h];refine ae J.inv_str λq u q=>?_;subst u;refine bf N.inv_int λq u=>?_;subst u;have D:=h;unfold tabOk at D;rw[i6,i6,i6]at D;exact qVt h λt' k=>wA I L rfl (.str _ _ (j6 D.1.2) D.2)
 .exact d9 (b6 h) hne'
theorem qUg{code:Array Nat}(hp:PatAt P.B N code)(I:Inv P fr W σ.h s)(L:Loc P env W σ s.heap)(hv:VR W σ.n v c)(F:(uE code v σ.h).lift σ≠.bad):wpAny P.M A (call (.builtin "re.Pattern.match") [.ref N,c] []) (Post P fr env W σ s ((uE code v σ.h).lift σ)) NoE s:=by
 obtain hne':=jK F;refine ae (zD (hne')) λx e1 z=>?_;obtain rfl:=qH e1;rw[(by
  show kR code x [] σ.h=_
  exact ax pw rfl:uE code (.str x) σ.h=(qS code x.cps (min (xV []).toNat x.cps.size) (min (xW []).toNat x.cps.size)).elim .bad λr=>okH (mtV r) σ.h)]at hne' ⊢
 refine bh hv.inv_str λt D O hs=>?_;subst D;refine bf (zD hne') λq J=>?_;rw[J.1];obtain⟨op,fs,ct,p1,p2,p3,p4,p5,p6,oc,items,e,p7,p8,p9⟩:=hp.at_;refine iN qCg ⟨op,I.keep _ _ p1,p2⟩ qAu ?_ (qPc _ _);refine qCa ⟨op,fs,ct,I.keep _ _ p1,p2,p3,p4,p5,p6,oc,items,e,I.keep _ _ p7,p8,p9⟩ .nil pi pi pi pi J.1 (λp e u=>⟨_,rfl,?_⟩) λu=>⟨_,rfl,?_⟩
 .subst u;exact qDn I L
 .subst u;exact⟨_,_,W,rfl,Step.refl I L,.none⟩
structure Prg where
 K:Frag
 C:Addr
 meths:List (Str×Addr)
 flds:List Str
 gl:Str->Option V
 tab:Addr
 tabC:Addr
 tabF:Nat->Nat
 rx:Addr->Option (Array Nat)
noncomputable def qBs:V->Bool
 | .top w=>handedIn w
 |_=>true
noncomputable def qZt:V->Option Nat
 | .ref k=>some k
 |_=>none
theorem qCp:qZt v=some x->v=.ref x:=by cases v <;> intro h <;> first|exact zN1 h|exact g0 _ (b5 h)
noncomputable def hN:V->Option Addr
 | .top (.ref d)=>some d
 |_=>none
theorem jX:hN v=some x->v=.top (.ref x):=by
 cases v with
 |top c=>cases c <;> intro h <;> first|exact zN1 h|exact g0 (λd=>V.top (.ref d)) (b5 h)
 |_=>exactλh=>zN1 h
noncomputable def zKq:O->Option (Addr×Nat)
 | .inst C d=>some (C,d)
 |_=>none
theorem qNv:zKq o=some x->o=.inst x.1 x.2:=by cases o <;> intro h <;> first|exact zN1 h|exact b5 h▸rfl
noncomputable def zKu:O->Option (List (Str×V))
 | .dict fs=>some fs
 |_=>none
theorem qOh:zKu o=some x->o=.dict x:=by cases o <;> intro h <;> first|exact zN1 h|exact g0 _ (b5 h)
def jN(G:Prg)(o:V)(H:Hp):Option (Nat×Nat×List (Str×V)):=
 (qZt o).bind λk=>(H.o k).bind λa=>(zKq a).bind λx=>(H.o x.2).bind λb=>(zKu b).bind λfs=>if x.1=G.C then some (k,x.2,fs)else none
def yM(G:Prg)(o:V)(f:Str)(H:Hp):Ov :=
 (jN G o H).elim (if f=("append":Str)then(qCt H o).elim .bad λq=>.ok (.bnd q.1)else .bad) λq=>if G.flds.contains f=true then(q.2.2.lookup f).elim .bad λv=>if qBs v then .ok v else .bad else .bad
def zLt(G:Prg)(o:V)(f:Str)(v:V)(H:Hp):Option Hp :=
 (jN G o H).bind λq=>if G.flds.contains f=true/\q.2.2.length<=100 then some { H with o:=λj=>if j=q.2.1 then some (.dict (setF f v q.2.2))else H.o j }else none
noncomputable def strMeth(m:Str):Option String:=if m=("find":Str)then some "str.find"else if m=("rfind":Str)then some "str.rfind"else if m=("split":Str)then some "str.split"else if m=("join":Str)then some "str.join"else if m=("expandtabs":Str)then some "str.expandtabs"else none
noncomputable def uJ(m:Str):Option String:=if m=("append":Str)then some "list.append"else none
noncomputable def zAj(m:Str):Option String:=if m=("end":Str)then some "re.Match.end"else none
def zHv(G:Prg)(k:Nat)(m:Str)(H:Hp):Option (V×List V):=
 (jN G (.ref k) H).elim ((qCt H (.ref k)).bind λz=>(uJ m).map λi=>(.top (.builtin i),[.ref k])) λq=>if q.2.2.lookup m=none then(G.meths.lookup m).map λg=>(.top (.ref g),[.ref k])else none
def patM(G:Prg)(m:Str)(a:Addr):Option (V×List V):=if m=("match":Str)then(qZy a).map λq=>(.top (.builtin "re.Pattern.match"),[.top (.ref a)])else none
def getV(G:Prg)(o:V)(m:Str)(H:Hp):Option (V×List V):=
 (qV o).elim ((zHb o).elim ((hN o).elim ((qZt o).bind λk=>zHv G k m H) (patM G m)) λx=>(zAj m).map λi=>(.top (.builtin i),[.mt x.1 x.2])) λx=>(strMeth m).map λi=>(.top (.builtin i),[.str x])
noncomputable def qDu(args:List V)(f:V->Rs V):Rs V:=match args with| [a]=>f a|_=>.bad
noncomputable def qGh(args:List V)(f:V->V->Rs V):Rs V:=match args with| [a,b]=>f a b|_=>.bad
noncomputable def zKy(args:List V)(f:V->V->V->Rs V):Rs V:=match args with| [a,b,c]=>f a b c|_=>.bad
noncomputable def zDn(args:List V)(f:V->V->V->V->Rs V):Rs V:=match args with| [a,b,c,d]=>f a b c d|_=>.bad
def bapp(i:String)(args:List V)(H:Hp):Rs V :=
 if i="len"then qDu args λa=>qJs a H
 else if i="list.append"then qGh args λa b=>zT a b H
 else if i="str.find"then(if args.length=4 then zDn args λa b c d=>vI kF a b c d H else zKy args λa b c=>qKj a b c H)
 else if i="str.rfind"then zDn args λa b c d=>vI jI a b c d H
 else if i="str.split"then qGh args λa b=>hY a b H
 else if i="str.join"then qGh args λa b=>qDg a b H
 else if i="str.expandtabs"then qGh args λa b=>tabsB a b H
 else if i="re.Match.end"then qDu args λa=>zIt a H
 else if i="re.Pattern.match"then qGh args λp v=>((hN p).bind qZy).elim .bad λcode=>uE code v H
 else .bad
def tapp(i:String)(args:List V)(H:Hp):Rs V :=
 if i="range"then qCq args H
 else if i="tuple"then qDu args λa=>qWy a H
 else .bad
noncomputable abbrev Fns:=Addr->List V->Hp->Rs V
def appV(G:Prg)(fns:Fns)(f:V)(args:List V)(H:Hp):Rs V:=match f with
 | .top (.builtin i)=>bapp i args H
 | .top (.type i)=>tapp i args H
 | .top (.ref a)=>(G.rx a).elim (fns a args H) λcode=>qAd code args H
 | .bnd k=>qDu args λx=>zT (.ref k) x H
 |_=>.bad
def trV(G:Prg)(v:V):Option (Nat->Nat):=(hN v).bind λd=>if d=G.tab then some G.tabF else none
def mk(G:Prg)(lv:Nat)(fns:Fns):Sx:={ lvl:=lv,gl:=G.gl,app:=appV G fns,get:=getV G,fld:=yM G,setA:=zLt G,tr:=trV G }
structure PrgOk(P:Par)(G:Prg):Prop where
 cls:ClsOk P G.K G.C
 tab:TabOk G.K G.tabC G.tab G.tabF
 rx:∀b code,G.rx b=some code->∃pt,P.B.get? b=some (boundObj "re.Pattern.match" pt)/\PatAt P.B pt code
 pat:∀a code,qZy a=some code->PatAt P.B a code/\∃o,P.B.get? a=some o/\o.cls=.type "re.Pattern"/\o.dict=none
 m:∀m g,G.meths.lookup m=some g->findIn G.K (.ref G.C) m=some (some (.ref g))/\typeIn G.K (.ref g)=some (.type "function")
 fld:∀f,G.flds.contains f=true->findIn G.K (.ref G.C) f=some none
 gl:∀x v,G.gl x=some v->∃c mg mb,P.B.Ns eJ mg/\P.B.Ns fV mb/\(mg x=some c\/(mg x=none/\mb x=some c))/\∀W n,VR W n v c
def zDx(P:Par)(lv:Nat)(fns:Fns):Prop:=∀fr A env,Fm P lv fr A env->∀W σ s,Inv P fr W σ.h s->Loc P env W σ s.heap->∀a args cargs,VRs W σ.n args cargs->(fns a args σ.h).lift σ≠.bad ->
  yD P.M A (.ref a) s/\wpAny P.M A (call (.ref a) cargs []) (Post P fr env W σ s ((fns a args σ.h).lift σ)) NoE s
theorem wE(h:jN G o H=some (k,d,fs)):o=.ref k/\H.o k=some (.inst G.C d)/\H.o d=some (.dict fs):=by
 refine px h λI e1 h=>ae (pz h) λa e2 h=>ae (pz h) λx F h=>?_;refine px h λb D h=>ae (pz h) λfs' u h=>?_;by_cases q:x.1=G.C
 .cases(d3 q).symm.trans h;exact⟨qCp e1,e2.trans (g0 some ((qNv F).trans (q▸rfl))),D.trans (g0 some (qOh u))⟩
 .exact zN1 ((b6 q).symm.trans h)
theorem qUx(h:qBs v)(hv:VR W n v c):handedIn c:=by
 cases hv with
 |top=>exact h
 |_=>rfl
theorem VRs.inv3(h:VRs W n [x,y,z] cs):∃c d e,cs=[c,d,e]/\VR W n x c/\VR W n y d/\VR W n z e:=by refine bi h.inv_cons λc F u a b=>?_;subst u;refine bi b.inv2 λd e u D c'=>?_;subst u;exact⟨c,d,e,rfl,a,D,c'⟩
theorem zDw{R:j7×Lv->g6->Prop}{E:Pv}(D:R (.builtin "str.find",[.str x t]) s):wpAny M A (getMethod (.str x t) "find" u) R E s:=by with_reducible exact GM.of (.str x t) (eG _ _ _) pJ PySem.F.type_str_find pO D
theorem jM{α:Type}[Decidable c]{a b:α}{G:α->Prop}(h1:c->G a)(h2:¬c->G b):G (if c then a else b):=by
 by_cases h:c
 .rw[d3 h];exact h1 h
 .rw[b6 h];exact h2 h
theorem qRo{G:Rs V->Prop}(u:G .bad)(h:∀a,args=[a]->G (f a)):G (qDu args f):=by
 rcases args with _|⟨a,_|⟨b,r⟩⟩
 .exact u
 .exact h _ rfl
 .exact u
theorem qLj{G:Rs V->Prop}(u:G .bad)(h:∀a b,args=[a,b]->G (f a b)):G (qGh args f):=by
 rcases args with _|⟨a,_|⟨b,_|⟨c,r⟩⟩⟩
 .exact u
 .exact u
 .exact h _ _ rfl
 .exact u
theorem zQq{G:Rs V->Prop}(u:G .bad)(h:∀a b c,args=[a,b,c]->G (f a b c)):G (zKy args f):=by
 rcases args with _|⟨a,_|⟨b,_|⟨c,_|⟨d,r⟩⟩⟩⟩
 .exact u
 .exact u
 .exact u
 .exact h _ _ _ rfl
 .exact u
theorem zKz{G:Rs V->Prop}(u:G .bad)(h:∀a b c d,args=[a,b,c,d]->G (f a b c d)):G (zDn args f):=by
 rcases args with _|⟨a,_|⟨b,_|⟨c,_|⟨d,_|⟨e,r⟩⟩⟩⟩⟩
 .exact u
 .exact u
 .exact u
 .exact u
 .exact h _ _ _ _ rfl
 .exact u
theorem qWi{R:j7×Lv->g6->Prop}{E:Pv}(D:R (.builtin "str.rfind",[.str x t]) s):wpAny M A (getMethod (.str x t) "rfind" u) R E s:=by with_reducible exact GM.of (.str x t) (eG _ _ _) oW PySem.F.type_str_rfind pO D
theorem qWh{R:j7×Lv->g6->Prop}{E:Pv}(D:R (.builtin "str.split",[.str x t]) s):wpAny M A (getMethod (.str x t) "split" u) R E s:=by with_reducible exact GM.of (.str x t) (eG _ _ _) gX PySem.F.type_str_split pO D
theorem zDv{R:j7×Lv->g6->Prop}{E:Pv}(D:R (.builtin "str.join",[.str x t]) s):wpAny M A (getMethod (.str x t) "join" u) R E s:=by with_reducible exact GM.of (.str x t) (eG _ _ _) pI PySem.F.type_str_join pO D
theorem zDu{R:j7×Lv->g6->Prop}{E:Pv}(D:R (.builtin "str.expandtabs",[.str x t]) s):wpAny M A (getMethod (.str x t) "expandtabs" u) R E s:=by with_reducible exact GM.of (.str x t) (eG _ _ _) mS PySem.F.type_str_expandtabs pO D
def BG(P:Par)(fr:Ln)(A:w4)(env:Env)(W:Wd)(σ:St)(s:g6)(f:j7)(cargs:Lv)(r:Rs V):Prop:=r.lift σ≠.bad->wpAny P.M A (call f cargs []) (Post P fr env W σ s (r.lift σ)) NoE s
def MG(M:Model)(A:w4)(s:g6)(v:j7)(m:Str)(R:j7×Lv->g6->Prop)(E:Pv)(u:Sem Bool)(i:String)(o:Option String):Prop:=o=some i->wpAny M A (getMethod v m u) R E s
theorem zJf(Q:PrgOk P G)(F:Fm P lv fr A env)(I:Inv P fr W σ.h s)(L:Loc P env W σ s.heap){i:String}{args:List V}{cargs:Lv}(N:VRs W σ.n args cargs):(bapp i args σ.h).lift σ≠.bad->wpAny P.M A (call (.builtin i) cargs []) (Post P fr env W σ s ((bapp i args σ.h).lift σ)) NoE s:=by
 have J:BG P fr A env W σ s (.builtin i) cargs .bad:=λu=>d9 rfl u;refine jM (G:=BG P fr A env W σ s (.builtin i) cargs) (λhi=>qRo (G:=BG P fr A env W σ s (.builtin i) cargs) J λa e=>?_) λq=>?_
 .subst hi e;refine ae N.inv1 λq D h1=>?_;subst D;exactλu=>zNb I L h1 u
 refine jM (G:=BG P fr A env W σ s (.builtin i) cargs) (λhi=>qLj (G:=BG P fr A env W σ s (.builtin i) cargs) J λa b e=>?_) λq=>?_
 .subst hi e;refine bi N.inv2 λq q D h1 h2=>?_;subst D;exactλu=>qWe I L F.hL h1 h2 u
 refine jM (G:=BG P fr A env W σ s (.builtin i) cargs) (λhi=>?_) λq=>?_
 .subst hi;refine jM (G:=BG P fr A env W σ s (.builtin "str.find") cargs) (λq=>zKz (G:=BG P fr A env W σ s (.builtin "str.find") cargs) J λa b c d e=>?_) λq=>zQq (G:=BG P fr A env W σ s (.builtin "str.find") cargs) J λa b c e=>?_
  .subst e;exactλu=>zBx I L N u
  .subst e;refine bw N.inv3 λq q q D h1 h2 h3=>?_;subst D;exactλu=>zIe I L h1 h2 h3 u
 refine jM (G:=BG P fr A env W σ s (.builtin i) cargs) (λhi=>zKz (G:=BG P fr A env W σ s (.builtin i) cargs) J λa b c d e=>?_) λq=>?_
 .subst hi e;exactλu=>qZq I L N u
 refine jM (G:=BG P fr A env W σ s (.builtin i) cargs) (λhi=>qLj (G:=BG P fr A env W σ s (.builtin i) cargs) J λa b e=>?_) λq=>?_
 .subst hi e;refine bi N.inv2 λq q D h1 h2=>?_;subst D;exactλu=>qXs I L h1 h2 u
 refine jM (G:=BG P fr A env W σ s (.builtin i) cargs) (λhi=>qLj (G:=BG P fr A env W σ s (.builtin i) cargs) J λa b e=>?_) λq=>?_
 .subst hi e;refine bi N.inv2 λq q D h1 h2=>?_;subst D;exactλu=>zHl I L h1 h2 u
 refine jM (G:=BG P fr A env W σ s (.builtin i) cargs) (λhi=>qLj (G:=BG P fr A env W σ s (.builtin i) cargs) J λa b e=>?_) λq=>?_
 .clear J;subst hi e;refine bi N.inv2 λq q D h1 h2=>?_;subst D;exactλu=>zEo I L h1 h2 u
 refine jM (G:=BG P fr A env W σ s (.builtin i) cargs) (λhi=>qRo (G:=BG P fr A env W σ s (.builtin i) cargs) J λa e=>?_) λq=>?_
 .clear J;subst hi e;refine ae N.inv1 λq D h1=>?_;subst D;exactλu=>end_ok I L h1 u
 refine jM (G:=BG P fr A env W σ s (.builtin i) cargs) (λhi=>qLj (G:=BG P fr A env W σ s (.builtin i) cargs) J λp v e=>?_) λq=>J
 .clear J;subst hi e;intro u;refine ae (zD (jK u)) λcode e1 e2=>?_;rw[e2]at u ⊢;refine px e1 λa S O=>?_;obtain rfl:=jX S;refine bi N.inv2 λq q D h1 h2=>?_;subst D;obtain rfl:=h1.inv_top;exact qUg (Q.pat a code O).1 I L h2 u
theorem zEn(I:Inv P fr W σ.h s)(L:Loc P env W σ s.heap){i:String}{args:List V}{cargs:Lv}(F:VRs W σ.n args cargs):(tapp i args σ.h).lift σ≠.bad->wpAny P.M A (call (.type i) cargs []) (Post P fr env W σ s ((tapp i args σ.h).lift σ)) NoE s:=by
 have D:BG P fr A env W σ s (.type i) cargs .bad:=λu=>d9 rfl u;refine jM (G:=BG P fr A env W σ s (.type i) cargs) (λhi=>?_) λq=>?_
 .subst hi;exactλu=>qZv I L F u
 refine jM (G:=BG P fr A env W σ s (.type i) cargs) (λhi=>qRo (G:=BG P fr A env W σ s (.type i) cargs) D λa e=>?_) λq=>D
 .clear D;subst hi e;refine ae F.inv1 λq J h1=>?_;subst J;exactλu=>zLg I L h1 u
theorem zJb(F:Fm P lv fr A env)(I:Inv P fr W σ.h s)(L:Loc P env W σ s.heap)(N:VR W σ.n (.bnd k) D)(O:VRs W σ.n args cargs):(qDu args λx=>zT (.ref k) x σ.h).lift σ≠.bad->wpAny P.M A (call D cargs []) (Post P fr env W σ s ((qDu args λx=>zT (.ref k) x σ.h).lift σ)) NoE s:=by
 refine qRo (G:=BG P fr A env W σ s D cargs) (λu=>d9 rfl u) λa e=>?_;subst e;refine ae O.inv1 λq J h1=>?_;subst J;exactλu=>zNy I L F.hL N h1 u
theorem zNz(Q:PrgOk P G)(T:zDx P lv fns)(F:Fm P lv fr A env)(I:Inv P fr W σ.h s)(L:Loc P env W σ s.heap){f:V}{args:List V}{J:j7}{cargs:Lv}(N:VR W σ.n f J)(D:VRs W σ.n args cargs)(u:(appV G fns f args σ.h).lift σ≠.bad):yD P.M A J s/\wpAny P.M A (call J cargs []) (Post P fr env W σ s ((appV G fns f args σ.h).lift σ)) NoE s:=by
 cases f with
 |top v =>
  obtain rfl:=N.inv_top;clear N;cases J with
  |builtin i =>exact⟨qEb,zJf Q F I L D u⟩
  |type i=>exact⟨qNr,zEn I L D u⟩
  |ref a =>
   obtain e:appV G fns (.top (.ref a)) args σ.h=(G.rx a).elim (fns a args σ.h) λcode=>qAd code args σ.h:=rfl;rw[e]at u |-;cases O:G.rx a with
   |none=>rw[O]at u;exact T fr A env F W σ s I L _ args cargs D u
   |some code =>rw[O]at u;exact ae (Q.rx a code O) λY p1 p2=>⟨λE Q U=>qHj (I.keep _ _ p1) U,zAm p1 p2 I L D u⟩
  |_=>exact d9 rfl u
 |bnd k =>refine⟨bh N.inv_bnd λb S hk X=>?_,zJb F I L N D u⟩;subst S;exact qUq (I.frz _ _ X).1
 |_=>exact d9 rfl u
theorem zEv{R:j7×Lv->g6->Prop}{E:Pv}(D:R (.builtin i,[.str x t]) s):strMeth m=some i->wpAny M A (getMethod (.str x t) m u) R E s:=by
 refine jM (G:=MG M A s (.str x t) m R E u i) (λhm=>?_) λq=>?_
 .subst hm;intro e;subst e;exact zDw D
 refine jM (G:=MG M A s (.str x t) m R E u i) (λhm=>?_) λq=>?_
 .subst hm;intro e;subst e;exact qWi D
 refine jM (G:=MG M A s (.str x t) m R E u i) (λhm=>?_) λq=>?_
 .subst hm;intro e;subst e;exact qWh D
 refine jM (G:=MG M A s (.str x t) m R E u i) (λhm=>?_) λq=>?_
 .subst hm;intro e;subst e;exact zDv D
 refine jM (G:=MG M A s (.str x t) m R E u i) (λhm=>?_) λq=>λe=>nomatch e
 .subst hm;intro e;subst e;exact zDu D
theorem zAy{R:j7×Lv->g6->Prop}{E:Pv}(u:s.heap.get? a=some o)(I:o.cls=.type "list")(hd:o.dict=none)(J:R (.builtin i,[.ref a]) s):uJ m=some i->wpAny M A (getMethod (.ref a) m D) R E s:=by
 refine jM (G:=MG M A s (.ref a) m R E D i) (λhm=>?_) λq=>λe=>nomatch e
 .subst hm;intro e;subst e;exact nS ⟨o,u,I⟩ PySem.F.plainAttrs_list oE nG (λa e=>by injection e with e;subst e;exact⟨o,u,hd⟩) J
theorem zMy{R:j7×Lv->g6->Prop}{E:Pv}(u:s.heap.get? a=some o)(F:o.cls=.type "re.Match")(hd:o.dict=none)(I:R (.builtin i,[.ref a]) s):zAj m=some i->wpAny M A (getMethod (.ref a) m D) R E s:=by
 refine jM (G:=MG M A s (.ref a) m R E D i) (λhm=>?_) λq=>λe=>nomatch e
 .subst hm;intro e;subst e;exact nS ⟨o,u,F⟩ qAc qIq qWu (λa e=>by injection e with e;subst e;exact⟨o,u,hd⟩) I
theorem zNi(Q:PrgOk P G)(I:Inv P fr W σ.h s)(L:Loc P env W σ s.heap){o:V}{m:Str}{co:j7}{vf:V}{first:List V}(N:VR W σ.n o co)(hg:getV G o m σ.h=some (vf,first)){pl:Sem Bool}{E:Pv}{R:j7×Lv->g6->Prop}(O:∀r s' W',Step P fr env W σ s W' σ s'->VR W' σ.n vf r.1->VRs W' σ.n first r.2->R r s'):wpAny P.M A (getMethod co m pl) R E s:=by
 refine bC λS=>?_;unfold getV at hg;cases e1:qV o with
 |some x =>
  rw[e1]at hg;refine qa hg λi F D=>?_;injection D with D h_;subst D h_
  clear hg;obtain rfl:=qH e1;refine bh N.inv_str λt J h1 h2=>?_;subst J;exact S (zEv (O _ s W (Step.refl I L) (.top _) (.cons (.str _ _ h1 h2) .nil)) F)
 |none=>cases e2:zHb o with
  |some x =>
   rw[e1,e2]at hg;refine qa hg λi F D=>?_;injection D with D h_;subst D h_
   clear hg;obtain rfl:=qFf e2;refine cy (zKk I N) λa T J X h1 h2 h3=>?_;subst J;exact S (zMy h1 h2 h3 (O _ s W (Step.refl I L) (.top _) (.cons N .nil)) F)
  |none =>
   rw[e1,e2]at hg;cases e0:hN o with
   |some a =>
    rw[e0]at hg;obtain hg:patM G m a=some (vf,first):=hg;unfold patM at hg;by_cases hm:m=("match":Str)
    .replace hg:=aw hm hg;refine qa hg λcode Y F=>?_;injection F with F h_;subst F h_
     subst hm;obtain rfl:=jX e0;obtain rfl:=N.inv_top;obtain⟨_,T,g1,g2,g3⟩:=Q.pat a code Y;exact S (nS ⟨T,I.keep _ _ g1,g2⟩ yL qCg qLq (λb e=>by cases e;exact⟨T,I.keep _ _ g1,g3⟩) (O _ s W (Step.refl I L) (.top _) (.cons (.top _) .nil)))
    .exact zN1 ((b6 hm).symm.trans hg)
   |none =>
   rw[e0]at hg;refine px (hg) λk Y u=>?_;clear hg;obtain rfl:=qCp Y;obtain⟨rfl,hk⟩:=N.inv_ref;unfold zHv at u;cases hi:jN G (.ref k) σ.h with
   |some r =>
    obtain⟨k',d,fs⟩:=r;rw[hi]at u;obtain⟨e0,h1,h2⟩:=wE hi;injection e0 with e0;subst e0
    by_cases U:fs.lookup m=none
    .refine qa ((d3 U).symm.trans u) λg e1 e2=>?_;injection e2 with e2 h_;subst e2 h_
     exact S (zBr Q.cls I h1 h2 (Q.m m g e1).1 (Q.m m g e1).2 U (O _ s W (Step.refl I L) (.top _) (.cons (.ref hk) .nil)))
    .exact zN1 ((b6 U).symm.trans u)
   |none =>
    rw[hi]at u;obtain⟨⟨_,xs⟩,F,u⟩:=pz (u);refine qa u λi D Z=>?_;injection Z with Z h_;subst Z h_
    obtain⟨e7,e8⟩:=vR F;cases e7;obtain⟨_,T,a1,hr⟩:=I.o _ _ e8;refine bi hr.inv_list λitems e J r z=>?_;subst J;exact S (zAy a1 rfl rfl (O _ s W (Step.refl I L) (.top _) (.cons (.ref hk) .nil)) D)
theorem zAl(Q:PrgOk P G)(Z:zDx P lv fns):SxOk P (mk G lv fns):=by
 refine⟨λv f e=>?_,⟨Q.gl,λfr A env F W σ s I L f args cf cargs u Y D=>zNz Q Z F I L u Y D,λfr A env F W σ s I L o m V vf first J hg pl E R U=>zNi Q I L J hg U,?_⟩,?_⟩
 .refine px (e) λd e1 e2=>?_;obtain rfl:=jX e1;by_cases hd:d=G.tab
  .subst hd;cases(d3 rfl).symm.trans e2;exact⟨_,_,_,rfl,Q.tab,Q.cls.inn⟩
  .exact zN1 ((b6 hd).symm.trans e2)
 .intro fr A env F W σ s I L o f V J D;refine bC λN=>?_;replace D:yM G o f σ.h≠.bad:=λq=>D (g0 (Ov.st · σ) q);cases hi:jN G o σ.h with
  |some q =>
   obtain⟨k,d,fs⟩:=q;by_cases u:G.flds.contains f=true
   .cases hv:fs.lookup f with
    |none=>exact D (by unfold yM;rw[hi];exact(d3 u).trans (by rw[hv];rfl))
    |some v =>
     by_cases T:qBs v=true
     .have e:yM G o f σ.h=.ok v:=by unfold yM;rw[hi];refine(d3 u).trans ?_;rw[hv];exact d3 T
      obtain⟨rfl,h1,h2⟩:=wE hi;obtain⟨rfl,hk⟩:=J.inv_ref;refine N ?_;show wpAny _ _ _ (Post P fr env W σ s ((yM G (.ref k) f σ.h).st σ)) NoE s;rw[e];exact qVa Q.cls I h1 h2 (Q.fld f u) hv (λc hc=>qUx T hc) λc t hc=>⟨_,σ,W,rfl,Step.toks I L t,hc⟩
     .exact D (by unfold yM;rw[hi];refine(d3 u).trans ?_;rw[hv];exact b6 T)
   .exact D (by unfold yM;rw[hi];exact b6 u)
  |none =>
   by_cases u:f=("append":Str)
   .have e:yM G o f σ.h=(qCt σ.h o).elim .bad λq=>.ok (.bnd q.1):=by unfold yM;rw[hi];exact d3 u
    cases O:qCt σ.h o with
    |none=>exact D (by rw[e,O];rfl)
    |some q =>
     obtain⟨k,xs⟩:=q;obtain⟨rfl,hl⟩:=vR O;subst u;have X:zDd (.ref k) σ.h=okH (.bnd k) σ.h:=by unfold zDd;rw[O];rfl
     obtain h:=zJe (A:=A) I L J (by rw[X];exactλq=>nomatch q);rw[X]at h;refine N ?_;show wpAny _ _ _ (Post P fr env W σ s ((yM G (.ref k) _ σ.h).st σ)) NoE s;rw[e,O];exact h
   .exact D (by unfold yM;rw[hi];exact b6 u)
 .intro fr A env F W σ s I L o f v V c H J hv hs E R U;refine bC λN=>?_;obtain⟨⟨k,d,fs⟩,hi,S⟩:=pz (hs);obtain⟨rfl,h1,h2⟩:=wE hi;obtain⟨rfl,hk⟩:=J.inv_ref;by_cases u:G.flds.contains f=true/\fs.length<=100
  .cases(d3 u).symm.trans S;exact N (qTk Q.cls I L F.hL h1 h2 (Q.fld f u.1) u.2 hv λs' st=>U W s' st)
  .exact zN1 ((b6 u).symm.trans S)
end Mine.Lake
namespace Mine.Lake
open PySem PySem.W PyProof.Rows
def zRb(K:Frag)(f:Addr)(sc:Scope)(ps:List Str)(body:List Stmt):Prop :=
 ∃u,(∃o:Obj,K.lookup f=some o/\o.data=.func u)/\u.scope=sc/\u.body=.stmts body/\u.closure=[]/\u.globals=eJ/\u.builtins=fV/\(∃(c:Addr)(o:Obj)(D:Array j7)(t:Tok),u.code=.ref c/\K.lookup c=some o/\o.data=.fields D/\D[1]?=some (.str u.qualname t))/\wW sc ps=true /\
  ∀cargs:Lv,cargs.length=ps.length->bindArgs u ⟨cargs,[]⟩=pure (ps.zip cargs)
def kG(K:Frag)(f:Addr)(sc:Scope)(ps:List Str)(b:S):Prop:=∃body,zRb K f sc ps body/\TieS b sc (.l body)
noncomputable abbrev Rows:=List (Addr×Scope×List Str×S)
def zU(rows:Rows)(cx:Sx)(a:Addr)(args:List V)(H:Hp):Rs V:=match rows.lookup a with
 |some (sc,ps,b)=>runFn sc ps b cx args H
 |none=>.bad
noncomputable def noF:Fns:=λq q q=>.bad
def zAo(G:Prg)(u:List V->Hp->Rs V)(fns:Fns):Fns:=λa args H=>if a=G.C then makeV G.C u args H else fns a args H
def tower(G:Prg)(rows:Rows)(fI:Addr):Nat->Sx
 |0=>mk G 0 noF
 |1=>mk G 1 (zU rows (tower G rows fI 0))
 |n+2=>mk G (n+2) (zAo G (zU rows (tower G rows fI n) fI) (zU rows (tower G rows fI (n+1))))
section
variable{P:Par}{G:Prg}{rows:Rows}{fI:Addr}
theorem wO:∀n,(tower G rows fI n).lvl=n
 |0=>rfl
 |1=>rfl
 |_+2=>rfl
theorem zQc{K:Frag}(X:K.In P.B)(J:P.B.NoLimit)(h:zRb K f sc ps body):∃u,FnOk P f u ps body/\u.scope=sc:=ft h λu h1 h2 h3 h4 h5 F S L D=>⟨u,⟨ae h1 λo e1 e2=>⟨o,X _ _ e1,e2⟩,J,fx S λc o I t e1 e2 O N=>⟨c,o,I,t,e1,X _ _ e2,O,N⟩,h3,h4,h5,F,λs q cargs hc=>BindsTo.of_eq (D cargs hc),by rw[h2];exact L⟩,h2⟩
abbrev qPg(K:Frag)(rows:Rows):Prop:=∀a sc ps b,rows.lookup a=some (sc,ps,b)->kG K a sc ps b
set_option backward.match.sparseCases true in
theorem qCl(Xn:G.K.In P.B)(D:P.B.NoLimit)(O:qPg G.K rows)(C:SxOk P cx)(F:Fm P (cx.lvl+1) fr A env)(I:Inv P fr W σ.h s)(L:Loc P env W σ s.heap)(S:VRs W σ.n args cargs)(u:(zU rows cx a args σ.h).lift σ≠.bad):yD P.M A (.ref a) s/\codeAny P.M A (.call (.ref a) ⟨cargs,[]⟩) (λr s'=>match r with| .ok (.ret v)=>Post P fr env W σ s ((zU rows cx a args σ.h).lift σ) v s'| .ok _=>False| .error e=>NoE e s') s:=by
 cases J:rows.lookup a with
 |none =>
  have:zU rows cx a args σ.h=.bad:=by unfold zU;rw[J]
  rw[this]at u;exact d9 rfl u
 |some r =>refine bC λU=>?_;obtain⟨sc,ps,b⟩:=r;refine U ?_;rw[(by unfold zU;rw[J]:zU rows cx a args σ.h=runFn sc ps b cx args σ.h)]at u |-;refine ae (O _ _ _ _ J) λbody hd T=>ae (zQc Xn D hd) λX K N=>?_;subst N;exact⟨qUp K I,zCw K C T F I L S u⟩
theorem zMt:zDx P lv noF:=λfr A env F W σ s I L a args cargs D u=>d9 rfl u
set_option backward.match.sparseCases true in
theorem yW(Q:PrgOk P G)(D:P.B.NoLimit)(J:qPg G.K rows)(hi:findIn G.K (.ref G.C) "__init__"=some (some (.ref fI)))(O:typeIn G.K (.ref fI)=some (.type "function")):∀n,SxOk P (tower G rows fI n)
 |0=>zAl Q zMt
 |1=>by
  refine zAl Q (λfr A env F W σ s I L a args cargs N u=>?_)
  obtain⟨k,c⟩:=qCl Q.cls.inn D J (yW Q D J hi O 0) (by rw[(wO (G:=G) (rows:=rows) (fI:=fI) 0)];exact F) I L N u
  exact⟨k,mX c⟩
 |n+2=>by
  refine zAl Q (λfr A env F W σ s I L a args cargs N u=>?_)
  revert u
  unfold zAo
  by_cases S:a=G.C
  .subst S
   rw[d3 rfl]
   intro u
   exact make_inst (lv:=n+1) Q.cls hi O (λfr A env F W σ s I L args cargs N u=>(qCl Q.cls.inn D J (yW Q D J hi O n) (by rw[(wO (G:=G) (rows:=rows) (fI:=fI) n)];exact F) I L N u).2) F I L N u
  .rw[b6 S]
   intro u
   obtain⟨k,c⟩:=qCl Q.cls.inn D J (yW Q D J hi O (n+1)) (by rw[(wO (G:=G) (rows:=rows) (fI:=fI) (n+1))];exact F) I L N u
   exact⟨k,mX c⟩
end
theorem qEg:∀(names:List (Str×dE))(m:Nat)(ac:List (Str×Addr)),∀p∈ac,p∈cellsFrom m names ac:=by
 intro names;induction names with
 |nil=>exactλq q q h=>h
 |cons hd D u =>
  intro m ac p h;obtain⟨y,F⟩:=hd;unfold cellsFrom;split
  .exact u _ _ _ (.tail _ h)
  .exact u _ _ _ h
theorem qOq{bv:List (Str×V)}{L:Nat}:∀(names:List (Str×dE))(acc:List (Str×Addr))(cel:List (Str×Nat))(H:Hp),(∀k,H.n<=k->H.o k=none)->(∀x k,cel.lookup x=some k->k<H.n/\acc.lookup x=some (L+1+k)) ->
  (∀k,(cellsH bv names H cel).1.n<=k->(cellsH bv names H cel).1.o k=none)/\H.n<=(cellsH bv names H cel).1.n /\
  (∀x k,(cellsH bv names H cel).2.lookup x=some k->k<(cellsH bv names H cel).1.n/\(cellsFrom (L+1+H.n) names acc).lookup x=some (L+1+k)) /\
  (∀k,k<H.n->(cellsH bv names H cel).1.o k=H.o k) /\
  (∀k,H.n<=k->k<(cellsH bv names H cel).1.n->∃x,(x,L+1+k)∈cellsFrom (L+1+H.n) names acc/\(cellsH bv names H cel).1.o k=some (.cell (bv.lookup x))/\(x,NameKind.cell)∈names)
 | [],acc,cel,H,h1,h2=>⟨h1,i5 _,h2,λq q=>rfl,λk a b=>d9 b (Nat.not_lt.mpr a)⟩
 |(x,kd)::r,acc,cel,H,h1,h2=>by
  rw[qLc]
  unfold cellsFrom
  by_cases hk:(kd==NameKind.cell)=true
  .simp only[d3 hk]
   obtain ih:=qOq (bv:=bv) (L:=L) r ((x,L+1+H.n)::acc) ((x,H.n)::cel) (H.add (.cell (bv.lookup x))) (λk u=>by
     have F:H.n+1<=k:=u
     show(if k=H.n then _ else H.o k)=none
     rw[b6 (dO F)];exact h1 k (m9 F)) (λy k D=>by
     simp only[k8]at D |-
     cases T:y==x with
     |true=>rw[T]at D;subst D;exact⟨s9 _,rfl⟩
     |false=>rw[T]at D;exact⟨dU (h2 y k D).1,(h2 y k D).2⟩)
   obtain en:L+1+(H.add (.cell (bv.lookup x))).n=L+1+H.n+1:=rfl
   rw[en]at ih
   refine fo ih λi1 i2 i3 i4 N=>?_
   obtain i2':H.n+1<=(cellsH bv r (H.add (.cell (bv.lookup x))) ((x,H.n)::cel)).1.n:=i2
   refine⟨i1,jz en i2,i3,λk u=>?_,λk a b=>?_⟩
   .rw[i4 k (dU u)]
    exact bc (n3 u) rfl
   .by_cases I:k=H.n
    .subst I
     refine⟨x,qEg _ _ _ _ (.head _),?_,by rw[show kd=NameKind.cell from by simpa using hk];exact .head _⟩
     rw[i4 _ (s9 _)]
     exact ax rfl rfl
    .exact bh (N k (fB a (fR I)) b) λy O S J=>⟨y,O,S,.tail _ J⟩
  .simp only[b6 hk]
   exact fo (qOq (bv:=bv) (L:=L) r acc cel H h1 h2) λi1 i2 i3 i4 N=>⟨i1,i2,i3,i4,λk a b=>bh (N k a b) λy O S J=> ⟨y,O,S,.tail _ J⟩⟩
theorem qEc{names:List (Str×dE)}:∀{l:List (Str×V)},(l.filter (λp=>names.lookup p.1==some .local)).lookup y=some v->names.lookup y=some .local/\l.lookup y=some v:=by
 intro J;induction J with
 |nil=>exactλh=>zN1 h
 |cons zp L I =>
  obtain⟨z,u⟩:=zp;intro h;simp only[List.filter]at h;cases F:(names.lookup z==some NameKind.local)with
  |true =>
   rw[F]at h;simp only[k8]at h |-;cases D:y==z with
   |true =>
    rw[D]at h;have e:y=z:=by simpa using D
    subst e;exact⟨by simpa using F,h⟩
   |false=>rw[D]at h;exact I h
  |false =>
   rw[F]at h;obtain⟨p1,p2⟩:=I h;refine⟨p1,?_⟩;simp only[k8];cases D:y==z with
   |true =>
    have e:y=z:=by simpa using D
    subst e;rw[p1]at F;simp at F
   |false=>exact p2
noncomputable def W0(L:Nat)(fz:Nat->Option Obj):Wd:=⟨λk=>L+1+k,fz⟩
noncomputable def H0:Hp:=⟨λq=>none,0⟩
theorem qXr{P:Par}{sc:Scope}{ps:List Str}{args:List V}{cargs:Lv}{cenv:Env}{s:g6}{L:Nat}{fz:Nat->Option Obj}(S:wW sc ps)(Z:cenv.scope=sc)(c2:cenv.locals=L)(Y:cenv.cells=cellsFrom (L+1) sc.names [])(c4:cenv.globals=eJ)(c5:cenv.builtins=fV)(hL:P.B.objs.size=L)(hn:s.heap.Ns L (bindL cenv.kindOf (ps.zip cargs) λz=>none))(hk:∀b o,P.B.get? b=some o->s.heap.get? b=some o)(hc:∀x c,(x,c)∈cellsFrom (L+1) sc.names []->s.heap.IsCell c (bindC cenv.kindOf (ps.zip cargs) (λz=>none) x))(N:∀a o,fz a=some o->P.B.get? a=some o)(ha:VRs (W0 L fz) 0 args cargs)(hg:s.gens= #[])(ho:s.os=P.os):Inv P [L] (W0 L fz) (entryC sc (ps.zip args) H0).h s/\Loc P cenv (W0 L fz) (entryC sc (ps.zip args) H0) s.heap/\ScOk sc cenv:=by
 simp only[wW,i6,w6,fE]at S;obtain⟨⟨⟨⟨⟨⟨k1,k2⟩,k3⟩,k4⟩,k5⟩,U⟩,k7⟩:=S;have D:∀y,cenv.kindOf y=sc.names.lookup y:=λy=>by unfold Env.kindOf;rw[Z]
 obtain⟨i1,i2,i3,i4,X⟩:=qOq (bv:=ps.zip args) (L:=L) sc.names [] [] H0 (λz z=>rfl) (λx k h=>zN1 h);rw[(rfl:L+1+H0.n=L+1)]at i3 X;have I:∀a,L<=a->P.B.get? a=none:=λa h=>fM (by simp[hL,h]);obtain wl:Wle 0 (W0 L fz) (W0 L fz):=.refl ..;have u:∀k,k<(cellsH (ps.zip args) sc.names H0 []).1.n->∃o F,(cellsH (ps.zip args) sc.names H0 []).1.o k=some o/\s.heap.get? (L+1+k)=some F/\OR (W0 L fz) (cellsH (ps.zip args) sc.names H0 []).1.n o F:=λk h=>by
  obtain⟨x,j1,j2,j3⟩:=X k (v0 _) h;obtain⟨F,e1,J⟩:=hc x _ j1;refine⟨_,F,j2,e1,?_⟩;rw[qLg (by rw[D,(jL k4 j3)];intro q;cases q) U]at J;obtain hr:=qBk x ps ha;revert J hr;cases(ps.zip args).lookup x with
  |none=>cases(ps.zip cargs).lookup x with
   |none=>exactλJ z=>.nocell J
   |some _=>exactλz q=>q.elim
  |some v=>cases(ps.zip cargs).lookup x with
   |none=>exactλz q=>q.elim
   |some c=>exactλJ q=>.cell J (VR.mono wl (v0 _) q)
 refine⟨⟨hk,λk z=>I _ (ef),λk h=>?_,λk z q=>?_,λk z=>?_,λi j z z q=>?_,λk o h=>?_,λa c h=>⟨hk a c (N a c h),λq=>?_⟩,λa h=>?_,hg,ho⟩,⟨by rw[Z];exact k1,c4,c5,⟨_,by rw[c2];exact hn,λy v h=>?_⟩,λy k h=>?_⟩,?_⟩
 .obtain⟨o,F,_,e,_⟩:=u k h;exact⟨F,e⟩
 .have:L+1+k=L:=by simpa using(show L+1+k∈[L]from q)
  exact fP _ (iJ this)
 .cases hq:fz (L+1+k)with
  |none=>exact hq
  |some o=>have:=N _ _ hq;rw[I _ (ef)]at this;cases this
 .have:L+1+i=L+1+j:=q;simp_all
 .have T:k<(cellsH (ps.zip args) sc.names H0 []).1.n:=by refine Nat.not_le.mp λa2=>?_;have O:(cellsH (ps.zip args) sc.names H0 []).1.o k=some o:=h;rw[i1 k a2]at O;cases O
  obtain⟨o',F,e0,e1,e2⟩:=u k T;have O:(cellsH (ps.zip args) sc.names H0 []).1.o k=some o:=h;rw[e0]at O;subst O;exact⟨T,F,e1,e2⟩
 .have:a=L:=by simpa using q
  clear u wl D;subst this;have:=N a c h;rw[I a (i5 _)]at this;cases this
 .have:a=L:=by simpa using h
  clear u wl D;subst this;obtain⟨o,es,ep,e1,e2,_⟩:=hn;exact⟨I a (i5 _),o,e1,λvs q=>by rw[e2]at q;cases q⟩
 .obtain⟨p1,p2⟩:=qEc (names:=sc.names) h;obtain hr:=qBk y ps ha;rw[p2]at hr;refine⟨by rw[D];exact p1,?_⟩;cases h1:(ps.zip cargs).lookup y with
  |none=>rw[h1]at hr;exact hr.elim
  |some c =>rw[h1]at hr;refine⟨c,?_,VR.mono wl (v0 _) hr⟩;rw[qLf U,D,p1,h1];rfl
 .obtain⟨p,q⟩:=i3 y k h;exact⟨p,λz=>by rw[Y];exact q⟩
 .refine⟨λy h=>by rw[D];exact h,λy h=>by rw[D];exact h,λy h=>by rw[D];exact h,λy h=>by rw[D];exact h,λy h=>?_⟩;rw[D]at h;rw[Y];rcases h with h|h
  .exact Option.isSome_iff_exists.mp (yO (n:=L+1) (acc:=[]) (.inr (zQ h)))
  .have:=List.all_eq_true.mp k5 _ (zQ h);simp at this
theorem zHh{cargs:Lv}{cenv:Env}{L:Nat}{fz:Nat->Option Obj}{E:Pv}(T:wW sc ps)(F:cenv.scope=sc)(J:cenv.locals=L)(Y:cenv.cells=cellsFrom (L+1) sc.names [])(c4:cenv.globals=eJ)(c5:cenv.builtins=fV)(O:cenv.frame=some L)(hL:P.B.objs.size=L)(hn:s.heap.Ns L (bindL cenv.kindOf (ps.zip cargs) λz=>none))(hk:∀b o,P.B.get? b=some o->s.heap.get? b=some o)(hc:∀x c,(x,c)∈cellsFrom (L+1) sc.names []->s.heap.IsCell c (bindC cenv.kindOf (ps.zip cargs) (λz=>none) x))(N:∀a o,fz a=some o->P.B.get? a=some o)(ha:VRs (W0 L fz) 0 args cargs)(hg:s.gens= #[])(ho:s.os=P.os)(C:SxOk P cx)(u:cx.lvl<=20)(hb:TieS b sc (.l body))(D:ex b cx (entryC sc (ps.zip args) H0)=.ok (.ret v) σ')(hQ:∀W c s',VR W σ'.n v c->(∀b o,P.B.get? b=some o->s'.heap.get? b=some o)->s'.os=P.os->s'.gens= #[]->Q (.ret c) s'):wpAny P.M (callerA.deeper cenv) (execs body cenv) Q E s:=by
 refine bg (qXr T F J Y c4 c5 hL hn hk hc N ha hg ho) λI Lc Sc=>?_;refine j9 (qXv hb cx C [L] _ cenv (by
  refine⟨⟨by rw[J];exact .head _,rfl,?_,?_,[cenv],rfl,λe X=>?_⟩,⟨[],rfl⟩,by rw[J];exact O⟩
  .exact iz u
  .have:1+claimMargin+1+10*20+100<recursionLimit:=by decide
   exact jc u this
  .have:e=cenv:=by simpa using X
   subst this
   exact⟨by rw[F,(Lc.kind▸F▸rfl:sc.kind=.function)];decide,L,O,.head _⟩) Sc (W0 L fz) _ s I Lc (by rw[D];intro q;cases q)) (λf s' ⟨v',a7,U,e,st,Z⟩=>?_) (λe s' h=>h.elim)
 replace e:=D.symm.trans e;injection e with e h_;subst e h_
 cases Z with
 |ret hv=>exact hQ U _ s' hv st.inv.keep st.inv.os st.inv.gens
end Mine.Lake
namespace Mine.Lake.L09
open PySem PySem.W PyProof.Rows Mine.Lake MineTop
noncomputable def inE:S:=.seq (.ite (.cmp .Eq (.bin .Sub "lno" (.int 1)) "firstlno") (.seq (.a "continuation" (.g "C_STRING_FIRST_LINE")) .nil) (.seq (.a "continuation" (.g "C_STRING_NEXT_LINES")) .nil)) .nil
noncomputable def zNs:S:=.seq (.setA "self" "continuation" "continuation") (.seq (.assert (.cmp .Eq (.cmp .Eq "continuation" (.g "C_NONE")) (.cmp .Eq (.idx "goodlines" (.neg (.int 1))) "lno"))) (.seq (.ite (.cmp .NotEq (.idx "goodlines" (.neg (.int 1))) "lno") (.seq (.expr (.call "push_good" (qc "lno"))) .nil) .nil) .nil))
noncomputable def zPb:S:=.seq (.ite (.cmp .Eq "ch" (.str "#")) (.seq (.a "i" (.m "code" "find" (.cons (.str "\n") (qc "i")))) (.seq (.assert (.cmp .GtE "i" (.int 0))) (.seq .cont .nil))) .nil) (.seq (.assert (.cmp .Eq "ch" (.str "\\"))) (.seq (.assert (.cmp .Lt "i" "n")) (.seq (.ite (.cmp .Eq (.idx "code" "i") (.str "\n")) (.seq (.a "lno" (qf "lno" 1)) (.seq (.ite (.cmp .Eq (qf "i" 1) "n") (.seq (.a "continuation" (.g "C_BACKSLASH")) .nil) .nil) .nil)) .nil) (.seq (.a "i" (qf "i" 1)) .nil))))
def zQj:S:=.seq (.ite (.and (.cmp .NotEq "continuation" (.g "C_STRING_FIRST_LINE")) (.and (.cmp .NotEq "continuation" (.g "C_STRING_NEXT_LINES")) (.cmp .Gt "level" (.int 0)))) (.seq (.a "continuation" (.g "C_BRACKET")) .nil) .nil) zNs
noncomputable def inB:S:=.seq (.a "ch" (.idx "code" "i")) (.seq (.a "i" (qf "i" 1)) (.seq (.ite (.cmp .Eq "ch" (.str "x")) (.seq .cont .nil) .nil) (.seq (.ite (.cmp .Eq (.slc "code" (.bin .Sub "i" (.int 1)) (.bin .Add "i" "w")) "quote") (.seq (.a "i" (.bin .Add "i" "w")) (.seq .brk .nil)) .nil) (.seq (.ite (.cmp .Eq "ch" (.str "\n")) (.seq (.a "lno" (qf "lno" 1)) (.seq (.ite (.cmp .Eq "w" (.int 0)) (.seq (.ite (.cmp .Eq "level" (.int 0)) (.seq (.expr (.call "push_good" (qc "lno"))) .nil) .nil) (.seq .brk .nil)) .nil) (.seq .cont .nil))) .nil) (.seq (.ite (.cmp .Eq "ch" (.str "\\")) (.seq (.assert (.cmp .Lt "i" "n")) (.seq (.ite (.cmp .Eq (.idx "code" "i") (.str "\n")) (.seq (.a "lno" (qf "lno" 1)) .nil) .nil) (.seq (.a "i" (qf "i" 1)) (.seq .cont .nil)))) .nil) .nil)))))
def inL:S:=(.loop 1000 (.cmp .Lt "i" "n") inB inE)
def zPa:S:=.seq (.a "firstlno" "lno") (.seq (.a "w" (.bin .Sub (qd "quote") (.int 1))) (.seq (.a "i" (.bin .Add "i" "w")) (.seq inL (.seq .cont .nil))))
def zPc:S:=.seq (.a "quote" "ch") (.seq (.ite (.cmp .Eq (.slc "code" (.bin .Sub "i" (.int 1)) (qf "i" 2)) (.bin .Mult "quote" (.int 3))) (.seq (.a "quote" (.bin .Mult "quote" (.int 3))) .nil) .nil) zPa)
def zPg:S:=.seq (.a "ch" (.idx "code" "i")) (.seq (.a "i" (qf "i" 1)) (.seq (.ite (.cmp .Eq "ch" (.str "x")) (.seq .cont .nil) .nil) (.seq (.ite (.cmp .Eq "ch" (.str "\n")) (.seq (.a "lno" (qf "lno" 1)) (.seq (.ite (.cmp .Eq "level" (.int 0)) (.seq (.expr (.call "push_good" (qc "lno"))) .nil) .nil) (.seq .cont .nil))) .nil) (.seq (.ite (.cmp .Eq "ch" (.str "(")) (.seq (.a "level" (qf "level" 1)) (.seq .cont .nil)) .nil) (.seq (.ite (.cmp .Eq "ch" (.str ")")) (.seq (.ite "level" (.seq (.a "level" (.bin .Sub "level" (.int 1))) .nil) .nil) (.seq .cont .nil)) .nil) (.seq (.ite (.or (.cmp .Eq "ch" (.str "\"")) (.cmp .Eq "ch" (.str "'"))) zPc .nil) zPb))))))
def zPf:S:=(.loop 1000 (.cmp .Lt "i" "n") zPg .nil)
def zDg:S:=.seq (.a "continuation" (.g "C_NONE")) (.seq (.asgs "level" "lno" (.int 0)) (.seq (.ownA "self" "goodlines" "goodlines" (.list (.cons (.int 0) .nil))) (.seq (.a "push_good" (.attr "goodlines" "append")) (.seq (.asg2 "i" "n" (.tup (.cons (.int 0) (qc (qd "code"))))) (.seq zPf zQj)))))
noncomputable def qNw:S:=.seq (.setA "self" "indentwidth" "indentwidth") (.seq (.setA "self" "tabwidth" "tabwidth") .nil)
local macro_rules
 | `(tactic| left)=>`(tactic| exact ⟨_,⟨_,⟨_,rfl,rfl⟩,rfl,rfl,rfl,rfl,rfl,⟨_,_,_,_,rfl,rfl,rfl,rfl⟩,by decide +kernel,λ cargs h=>by obtain ⟨a,e⟩:=zPr h; subst e; rfl⟩,by (repeat' first | exact rfl | decide +kernel | exact (λ _ _ _=>rfl) | exact ⟨_,_,rfl⟩ | constructor)⟩)
local macro_rules
 | `(tactic| right)=>`(tactic| exact ⟨_,⟨_,⟨_,rfl,rfl⟩,rfl,rfl,rfl,rfl,rfl,⟨_,_,_,_,rfl,rfl,rfl,rfl⟩,by decide +kernel,λ cargs h=>by obtain ⟨a,b,e⟩:=zPq h; subst e; rfl⟩,by (repeat' first | exact rfl | decide +kernel | exact (λ _ _ _=>rfl) | exact ⟨_,_,rfl⟩ | constructor)⟩)
def qDo(i:Nat):Scope:=(qVd (nth (cls (nth TB 22)) i)).scope
def qQw:Scope:=qDo 0
theorem zMk(p:dQ):kG (K p) 172 qQw ["self","indentwidth","tabwidth"] qNw :=
 ⟨_,⟨_,⟨_,rfl,rfl⟩,rfl,rfl,rfl,rfl,rfl,⟨_,_,_,_,rfl,rfl,rfl,rfl⟩,by decide +kernel,λcargs h=>by refine dn (zRy h) λa b c u=>?_;subst u;rfl⟩,by(repeat' first|exact rfl|decide +kernel|exact(λq q q=>rfl)|exact⟨_,_,rfl⟩|constructor)⟩
noncomputable def qEw:S:=.seq (.assert (.or (.cmp .Eq (qd "s") (.int 0)) (.cmp .Eq (.idx "s" (.neg (.int 1))) (.str "\n")))) (.seq (.setA "self" "code" "s") (.seq (.setA "self" "study_level" (.int 0)) .nil))
def qCh:Scope:=qDo 1
theorem zMj(p:dQ):kG (K p) 179 qCh ["self","s"] qEw:=by right
noncomputable def qQa:S:=.seq (.assert (.or (.cmp .Eq "lo" (.int 0)) (.cmp .Eq (.idx (qe "code") (.bin .Sub "lo" (.int 1))) (.str "\n")))) (.seq (.ite (.cmp .Gt "lo" (.int 0)) (.seq (.setA "self" "code" (.slc (qe "code") "lo" .none)) .nil) .nil) .nil)
def qIt:Scope:=qDo 3
theorem zMi(p:dQ):kG (K p) 193 qIt ["self","lo"] qQa:=by right
def yZ:S:=.seq (.ite (.cmp .GtE (qe "study_level") (.int 1)) (.seq .ret0 .nil) .nil) (.seq (.setA "self" "study_level" (.int 1)) (.seq (.a "code" (qe "code")) (.sq "code" "trans" [("xxxxxxxx","x"),("xxxx","x"),("xx","x"),("xx","x"),("\nx","\n")] zDg)))
def qEn:Scope:=qDo 4
theorem zMh(p:dQ):kG (K p) 200 qEn ["self"] yZ:=by left
noncomputable def qOc:S:=.seq (.expr (.m "self" "_study1" .nil)) (.seq (.ret (qe "continuation")) .nil)
def qQy:Scope:=qDo 5
theorem zMg(p:dQ):kG (K p) 207 qQy ["self"] qOc:=by left
noncomputable def yX:S:=.seq (.ite (.cmp .GtE (qe "study_level") (.int 2)) (.seq .ret0 .nil) .nil) (.seq (.expr (.m "self" "_study1" .nil)) (.seq (.setA "self" "study_level" (.int 2)) (.seq (.asg2 "code" "goodlines" (.tup (.cons (qe "code") (qc (qe "goodlines"))))) (.seq (.a "i" (.bin .Sub (qd "goodlines") (.int 1))) (.seq (.a "p" (qd "code")) (.seq (.loop 1000 "i" (.seq (.assert "p") (.seq (.a "q" "p") (.seq (.each "nothing" (.call (.g "range") (.cons (.idx "goodlines" (.bin .Sub "i" (.int 1))) (qc (.idx "goodlines" "i")))) (.seq (.a "p" (qf (.m "code" "rfind" (.cons (.str "\n") (.cons (.int 0) (qc (.bin .Sub "p" (.int 1)))))) 1)) .nil)) (.seq (.ite (.call (.g "_junkre") (.cons "code" (qc "p"))) (.seq (.a "i" (.bin .Sub "i" (.int 1))) .nil) (.seq .brk .nil)) .nil)))) .nil) (.seq (.ite (.cmp .Eq "i" (.int 0)) (.seq (.assert (.cmp .Eq "p" (.int 0))) (.seq (.a "q" "p") .nil)) .nil) (.seq (.setA2 "self" "stmt_start" "self" "stmt_end" (.tup (.cons "p" (qc "q")))) (.seq (.a "lastch" (.str "")) (.seq (.own "stack" (.list .nil)) (.seq (.a "push_stack" (.attr "stack" "append")) (.seq (.own "bracketing" (.list (qc (.tup (.cons "p" (.cons (.int 0) .nil)))))) (.seq (.loop 1000 (.cmp .Lt "p" "q") (.seq (.a "m" (.call (.g "_chew_ordinaryre") (.cons "code" (.cons "p" (qc "q"))))) (.seq (.ite "m" (.seq (.a "newp" (.m "m" "end" .nil)) (.seq (.a "i" (.bin .Sub "newp" (.int 1))) (.seq (.loop 1000 (.and (.cmp .GtE "i" "p") (.cmp .In (.idx "code" "i") (.str " \t\n"))) (.seq (.a "i" (.bin .Sub "i" (.int 1))) .nil) .nil) (.seq (.ite (.cmp .GtE "i" "p") (.seq (.a "lastch" (.idx "code" "i")) .nil) .nil) (.seq (.a "p" "newp") (.seq (.ite (.cmp .GtE "p" "q") (.seq .brk .nil) .nil) .nil)))))) .nil) (.seq (.a "ch" (.idx "code" "p")) (.seq (.ite (.cmp .In "ch" (.str "([{")) (.seq (.expr (.call "push_stack" (qc "p"))) (.seq (.expr (.m "bracketing" "append" (qc (.tup (.cons "p" (qc (qd "stack"))))))) (.seq (.a "lastch" "ch") (.seq (.a "p" (qf "p" 1)) (.seq .cont .nil))))) .nil) (.seq (.ite (.cmp .In "ch" (.str ")]}")) (.seq (.ite "stack" (.seq (.delL "stack") .nil) .nil) (.seq (.a "lastch" "ch") (.seq (.a "p" (qf "p" 1)) (.seq (.expr (.m "bracketing" "append" (qc (.tup (.cons "p" (qc (qd "stack"))))))) (.seq .cont .nil))))) .nil) (.seq (.ite (.or (.cmp .Eq "ch" (.str "\"")) (.cmp .Eq "ch" (.str "'"))) (.seq (.expr (.m "bracketing" "append" (qc (.tup (.cons "p" (qc (qf (qd "stack") 1))))))) (.seq (.a "lastch" "ch") (.seq (.a "p" (.m (.call (.g "_match_stringre") (.cons "code" (.cons "p" (qc "q")))) "end" .nil)) (.seq (.expr (.m "bracketing" "append" (qc (.tup (.cons "p" (qc (qd "stack"))))))) (.seq .cont .nil))))) .nil) (.seq (.ite (.cmp .Eq "ch" (.str "#")) (.seq (.expr (.m "bracketing" "append" (qc (.tup (.cons "p" (qc (qf (qd "stack") 1))))))) (.seq (.a "p" (qf (.m "code" "find" (.cons (.str "\n") (.cons "p" (qc "q")))) 1)) (.seq (.assert (.cmp .Gt "p" (.int 0))) (.seq (.expr (.m "bracketing" "append" (qc (.tup (.cons "p" (qc (qd "stack"))))))) (.seq .cont .nil))))) .nil) (.seq (.assert (.cmp .Eq "ch" (.str "\\"))) (.seq (.a "p" (qf "p" 1)) (.seq (.assert (.cmp .Lt "p" "q")) (.seq (.ite (.cmp .NotEq (.idx "code" "p") (.str "\n")) (.seq (.a "lastch" (.bin .Add "ch" (.idx "code" "p"))) .nil) .nil) (.seq (.a "p" (qf "p" 1)) .nil)))))))))))) .nil) (.seq (.setA "self" "lastch" "lastch") (.seq (.setA "self" "lastopenbracketpos" (.ite "stack" (.idx "stack" (.neg (.int 1))) .none)) (.seq (.setA "self" "stmt_bracketing" (.call (.g "tuple") (qc "bracketing"))) .nil))))))))))))))))
def qEl:Scope:=qDo 6
theorem zMf(p:dQ):kG (K p) 214 qEl ["self"] yX:=by left
noncomputable def qKd:S:=.seq (.expr (.m "self" "_study2" .nil)) (.seq (.assert (.cmp .Eq (qe "continuation") (.g "C_BRACKET"))) (.seq (.a "j" (qe "lastopenbracketpos")) (.seq (.a "code" (qe "code")) (.seq (.a "n" (qd "code")) (.seq (.asgs "origi" "i" (qf (.m "code" "rfind" (.cons (.str "\n") (.cons (.int 0) (qc "j")))) 1)) (.seq (.a "j" (qf "j" 1)) (.seq (.loop 1000 (.cmp .Lt "j" "n") (.seq (.a "m" (.call (.g "_itemre") (.cons "code" (qc "j")))) (.seq (.ite "m" (.seq (.a "j" (.bin .Sub (.m "m" "end" .nil) (.int 1))) (.seq (.a "extra" (.int 0)) (.seq .brk .nil))) (.seq (.asgs "i" "j" (qf (.m "code" "find" (.cons (.str "\n") (qc "j"))) 1)) .nil)) .nil)) (.seq (.asgs "j" "i" "origi") (.seq (.loop 1000 (.cmp .In (.idx "code" "j") (.str " \t")) (.seq (.a "j" (qf "j" 1)) .nil) .nil) (.seq (.a "extra" (qe "indentwidth")) .nil)))) (.seq (.ret (.bin .Add (.call (.g "len") (qc (.m (.slc "code" "i" "j") "expandtabs" (qc (qe "tabwidth"))))) "extra")) .nil))))))))
def qFn:Scope:=qDo 7
theorem zMe(p:dQ):kG (K p) 221 qFn ["self"] qKd:=by left
noncomputable def qLd:S:=.seq (.expr (.m "self" "_study2" .nil)) (.seq (.assert (.cmp .Eq (qe "continuation") (.g "C_BACKSLASH"))) (.seq (.a "code" (qe "code")) (.seq (.a "i" (qe "stmt_start")) (.seq (.loop 1000 (.cmp .In (.idx "code" "i") (.str " \t")) (.seq (.a "i" (qf "i" 1)) .nil) .nil) (.seq (.a "startpos" "i") (.seq (.a "endpos" (qf (.m "code" "find" (.cons (.str "\n") (qc "startpos"))) 1)) (.seq (.asgs "found" "level" (.int 0)) (.seq (.loop 1000 (.cmp .Lt "i" "endpos") (.seq (.a "ch" (.idx "code" "i")) (.seq (.ite (.cmp .In "ch" (.str "([{")) (.seq (.a "level" (qf "level" 1)) (.seq (.a "i" (qf "i" 1)) .nil)) (.seq (.ite (.cmp .In "ch" (.str ")]}")) (.seq (.ite "level" (.seq (.a "level" (.bin .Sub "level" (.int 1))) .nil) .nil) (.seq (.a "i" (qf "i" 1)) .nil)) (.seq (.ite (.or (.cmp .Eq "ch" (.str "\"")) (.cmp .Eq "ch" (.str "'"))) (.seq (.a "i" (.m (.call (.g "_match_stringre") (.cons "code" (.cons "i" (qc "endpos")))) "end" .nil)) .nil) (.seq (.ite (.cmp .Eq "ch" (.str "#")) (.seq .brk .nil) (.seq (.ite (.and (.cmp .Eq "level" (.int 0)) (.and (.cmp .Eq "ch" (.str "=")) (.and (.or (.cmp .Eq "i" (.int 0)) (.cmp .NotIn (.idx "code" (.bin .Sub "i" (.int 1))) (.str "=<>!"))) (.cmp .NotEq (.idx "code" (qf "i" 1)) (.str "="))))) (.seq (.a "found" (.int 1)) (.seq .brk .nil)) (.seq (.a "i" (qf "i" 1)) .nil)) .nil)) .nil)) .nil)) .nil)) .nil)) .nil) (.seq (.ite "found" (.seq (.a "i" (qf "i" 1)) (.seq (.a "found" (.cmp .Is (.m (.g "_twin_re_7") "match" (qc (.slc "code" "i" "endpos"))) .none)) .nil)) .nil) (.seq (.ite (.not "found") (.seq (.a "i" "startpos") (.seq (.loop 1000 (.cmp .NotIn (.idx "code" "i") (.str " \t\n")) (.seq (.a "i" (qf "i" 1)) .nil) .nil) .nil)) .nil) (.seq (.ret (qf (.call (.g "len") (qc (.m (.slc "code" (qe "stmt_start") "i") "expandtabs" (qc (qe "tabwidth"))))) 1)) .nil)))))))))))
def qFz:Scope:=qDo 9
theorem zMd(p:dQ):kG (K p) 235 qFz ["self"] qLd:=by left
noncomputable def zDh:S:=.seq (.expr (.m "self" "_study2" .nil)) (.seq (.asg2 "i" "n" (.tup (.cons (qe "stmt_start") (qc (qe "stmt_end"))))) (.seq (.a "j" "i") (.seq (.a "code" (qe "code")) (.seq (.loop 1000 (.and (.cmp .Lt "j" "n") (.cmp .In (.idx "code" "j") (.str " \t"))) (.seq (.a "j" (qf "j" 1)) .nil) .nil) (.seq (.ret (.slc "code" "i" "j")) .nil)))))
def qRk:Scope:=qDo 10
theorem zMc(p:dQ):kG (K p) 242 qRk ["self"] zDh:=by left
noncomputable def qKy:S:=.seq (.expr (.m "self" "_study2" .nil)) (.seq (.ret (.cmp .IsNot (.call (.g "_closere") (.cons (qe "code") (qc (qe "stmt_start")))) .none)) .nil)
def qFx:Scope:=qDo 12
theorem zMb(p:dQ):kG (K p) 256 qFx ["self"] qKy:=by left
noncomputable def zCz:S:=.seq (.expr (.m "self" "_study2" .nil)) (.seq (.ret (qe "stmt_bracketing")) .nil)
def qRj:Scope:=qDo 13
theorem zMa(p:dQ):kG (K p) 263 qRj ["self"] zCz:=by left
noncomputable def qHg:S:=.seq (.asgC "tokens" (.list (.cons (.str "def f:\n") (.cons (.str "\n") (.cons (.str "'") (.cons (.str "\"\"\"") (.cons (.str "(") (.cons (.str ")") (.cons (.str "\\\n") (.cons (.str "#") (.cons (.str "#x\n") (.cons (.str " ") (.cons (.str "a\n") (.cons (.str "return\n") (.cons (.str "{\n") (.cons (.str "]") (.cons (.str "'''\n") (.cons (.str "= ") (.cons (.str "\t") (.cons (.str "\\") .nil)))))))))))))))))))) (.seq (.a "text" (.idx (.list (.cons (.str "a\n") (.cons (.str "") (.cons (.str "# b\n") .nil)))) (.bin .Mod (.bin .FloorDiv (qd "script") (.int 5)) (.int 3)))) (.seq (.aug "text" (.m (.str "") "join" (.cons (.comp (.idx (.cv "tokens") (.bin .Mod "x" (.int 18))) "x" (.slc "script" .none (.int 10)) (.bool true)) .nil))) (.seq (.ret (.bin .Add "text" (.idx (.list (.cons (.str "pass\n") (.cons (.str "\n") (.cons (.str "\\\n") (.cons (.str "#c\n") (.cons (.str "(\n") .nil)))))) (.bin .Mod (qd "script") (.int 5))))) .nil)))
def ltext_sc:Scope:=(qVd (nth TB 24)).scope
theorem zLz(p:dQ):kG (K p) 275 ltext_sc ["script"] qHg:=by left
noncomputable def qHi:S:=.seq (.own "told" (.list (.cons (.m "parser" "get_continuation_type" .nil) (.cons (.m "parser" "is_block_closer" .nil) (.cons (.m "parser" "get_base_indent_string" .nil) (.cons (.attr "parser" "lastch") (.cons (.bin .Add (.attr "parser" "stmt_start") (.cv "start")) (.cons (.bin .Add (.attr "parser" "stmt_end") (.cv "start")) (.cons (.comp2 (.tup (.cons (.bin .Add "place" (.cv "start")) (qc "depth"))) "place" "depth" (.m "parser" "get_last_stmt_bracketing" .nil)) .nil))))))))) (.seq (.ite (.cmp .Eq (.idx "told" (.int 0)) (.g "C_BRACKET")) (.seq (.expr (.m "told" "append" (qc (.m "parser" "compute_bracket_indent" .nil)))) .nil) .nil) (.seq (.ite (.cmp .Eq (.idx "told" (.int 0)) (.g "C_BACKSLASH")) (.seq (.expr (.m "told" "append" (qc (.m "parser" "compute_backslash_indent" .nil)))) .nil) .nil) (.seq (.ret "told") .nil)))
def lall_sc:Scope:=(qVd (nth TB 25)).scope
theorem zLy(p:dQ):kG (K p) 280 lall_sc ["parser","start"] qHi:=by right
noncomputable def qQs:S:=.seq (.a "text" (.call (.g "_law_text") (qc "script"))) (.seq (.a "rows" (.comp (.bin .Add "row" (.str "\n")) "row" (.slc (.m "text" "split" (.cons (.str "\n") .nil)) .none (.neg (.int 1))) (.bool true))) (.seq (.a "whole" (.call (.g "Parser") (.cons (.int 4) (.cons (.int 8) .nil)))) (.seq (.expr (.m "whole" "set_code" (qc "text"))) (.seq (.a "due" (.call (.g "_law_all") (.cons "whole" (.cons (.int 0) .nil)))) (.seq (.a "good" (.attr "whole" "goodlines")) (.seq (.a "walker" (.call (.g "Parser") (.cons (.int 4) (.cons (.int 8) .nil)))) (.seq (.expr (.m "walker" "set_code" (qc "text"))) (.seq (.expr (.m "walker" "get_continuation_type" .nil)) (.seq (.a "stood" (.int 0)) (.seq (.eachC "number" (.slc "good" .none (.neg (.int 1))) (.seq (.a "start" (.call (.g "len") (qc (.m (.str "") "join" (qc (.slc "rows" .none (.cv "number"))))))) (.seq (.a "left" (.call (.g "Parser") (.cons (.int 4) (.cons (.int 8) .nil)))) (.seq (.expr (.m "left" "set_code" (qc "text"))) (.seq (.expr (.m "left" "set_lo" (qc "start"))) (.seq (.expr (.m "walker" "set_lo" (qc (.bin .Sub "start" "stood")))) (.seq (.a "stood" "start") (.seq (.ite (.cmp .NotEq (.list (.cons (.attr "walker" "code") (.cons (.m "walker" "get_continuation_type" .nil) (qc (.attr "walker" "goodlines"))))) (.list (.cons (.attr "left" "code") (.cons (.idx "due" (.int 0)) (qc "good"))))) (.seq (.ret (.bool false)) .nil) .nil) (.seq (.a "told" (.call (.g "_law_all") (.cons "left" (qc "start")))) (.seq (.ite (.cmp .GtE (.attr "whole" "stmt_start") "start") (.seq (.ite (.cmp .NotEq "told" "due") (.seq (.ret (.bool false)) .nil) .nil) .nil) (.seq (.ite (.cmp .NotEq "told" (.list (.cons (.g "C_NONE") (.cons (.bool false) (.cons (.str "") (.cons (.str "") (.cons "start" (.cons "start" (.cons (.list (qc (.tup (.cons "start" (.cons (.int 0) .nil))))) .nil))))))))) (.seq (.ret (.bool false)) .nil) .nil) .nil)) (.seq (.ite (.cmp .NotEq (.comp (.bin .Add (.cv "number") "line") "line" (.attr "left" "goodlines") (.bool true)) (.comp "line" "line" "good" (.cmp .GtE "line" (.cv "number")))) (.seq (.ret (.bool false)) .nil) .nil) .nil))))))))))) (.seq (.ret (.bool true)) .nil)))))))))))
def zBc:Scope:=(qVd (nth TB 26)).scope
noncomputable def gl09T:List (Str×V):=[("len",.top (.builtin "len")),("range",.top (.type "range")),("tuple",.top (.type "tuple")),("Parser",.top (.ref 266)),("_law_text",.top (.ref 275)),("_law_all",.top (.ref 280)),("trans",.top (.ref 108)),("_junkre",.top (.ref 79)),("_match_stringre",.top (.ref 80)),("_itemre",.top (.ref 81)),("_closere",.top (.ref 82)),("_chew_ordinaryre",.top (.ref 83)),("_twin_re_7",.top (.ref 73)),("C_NONE",.int 0),("C_BACKSLASH",.int 1),("C_STRING_FIRST_LINE",.int 2),("C_STRING_NEXT_LINES",.int 3),("C_BRACKET",.int 4)]
noncomputable def zHu(x:Str):Option V:=gl09T.lookup x
noncomputable def junkC:Array Nat:=(pk.toArray)
noncomputable def stringC:Array Nat:=(pn.toArray)
noncomputable def itemC:Array Nat:=(pq.toArray)
noncomputable def closeC:Array Nat:=(pr.toArray)
noncomputable def chewC:Array Nat:=(pu.toArray)
def rx09T:List (Addr×Array Nat):=[(79,junkC),(80,stringC),(81,itemC),(82,closeC),(83,chewC)]
noncomputable def qIy(a:Addr):Option (Array Nat):=rx09T.lookup a
noncomputable def tr12(c:Nat):Nat:=if c=40\/c=123\/c=91 then 40 else if c=41\/c=125\/c=93 then 41 else if c=34\/c=39\/c=92\/c=10\/c=35 then c else 120
noncomputable def meths09:List (Str×Addr):=[("set_code",179),("set_lo",193),("_study1",200),("get_continuation_type",207),("_study2",214),("compute_bracket_indent",221),("compute_backslash_indent",235),("get_base_indent_string",242),("is_block_closer",256),("get_last_stmt_bracketing",263)]
noncomputable def flds09:List Str:=["code","study_level","indentwidth","tabwidth","goodlines","continuation","stmt_start","stmt_end","lastch","lastopenbracketpos","stmt_bracketing"]
def G09(p:dQ):Prg:={ K:=K p,C:=266,meths:=meths09,flds:=flds09,gl:=zHu,tab:=108,tabC:=100,tabF:=tr12,rx:=qIy }
def rows09:Rows:=[(172,qQw,["self","indentwidth","tabwidth"],qNw),(179,qCh,["self","s"],qEw),(193,qIt,["self","lo"],qQa),(200,qEn,["self"],yZ),(207,qQy,["self"],qOc),(214,qEl,["self"],yX),(221,qFn,["self"],qKd),(235,qFz,["self"],qLd),(242,qRk,["self"],zDh),(256,qFx,["self"],qKy),(263,qRj,["self"],zCz),(275,ltext_sc,["script"],qHg),(280,lall_sc,["parser","start"],qHi)]
def zOv(p:dQ):Array eV:=match(K p).lookup 108 with
 |some ⟨_,_,.dict es _,_⟩=>es
 |_=>#[]
noncomputable def zPv(es:Array eV):Bool:=es.toList.all λe=>match e.key with| .int k _=>e.hash==hashInt k|_=>false
theorem zHj(h:zPv es):IntKeys es:=by intro e u;have:=List.all_eq_true.mp h e (Array.mem_toList_iff.mpr u);revert this;cases hk:e.key <;> intro this <;> first|exact⟨_,_,rfl,eU this⟩|exact zF1 this
noncomputable def zOk(f:Nat->Nat)(es:Array eV)(c:Nat):Bool:=match findBy nR es (c:Int)with|some (.int i _)=>i==(f c:Nat)|_=>false
theorem zLe(h:(rD 128).all (zOk f es)):∀c:Nat,c<128->∃t,findBy nR es (c:Int)=some (.int (f c:Nat) t):=by
 intro c hc;have:=List.all_eq_true.mp h c (List.mem_range.mpr hc);unfold zOk at this;revert this;cases findBy nR es (c:Int)with
 |none=>exactλh=>zF1 h
 |some v=>cases v with
  |int i t=>exactλh=>⟨t,by rw[eU h]⟩
  |_=>exactλh=>zF1 h
theorem zKm:∀c,c<128->tr12 c<128:=pw
theorem zOw(p:dQ):TabOk (K p) 100 108 tr12 :=
 ⟨⟨_,zOv p,_,rfl,rfl,rfl,zHj (by kernel_rfl),zLe (by kernel_rfl)⟩,by rfl,by rfl,by rfl,zKm⟩
section
variable{P:Par}{pv:iY}{loose:List Str}{mg mb:Str->Option j7}{K:Frag}
theorem glB(X:K.In P.B)(T:TopRead pv loose mg mb P.B)(e:nsIn K eJ x=some none)(hv:bootBuiltins x=some v)(u:x≠"__name__"):∃c mg mb,P.B.Ns eJ mg/\P.B.Ns fV mb/\(mg x=some c\/(mg x=none/\mb x=some c))/\c=v :=
 ⟨v,mg,mb,T.g,T.b,.inr ⟨mg_none_of X T.g e,(T.builtins x u).trans hv⟩,rfl⟩
theorem glK(X:K.In P.B)(T:TopRead pv loose mg mb P.B)(e:nsIn K eJ x=some (some v)):∃c mg mb,P.B.Ns eJ mg/\P.B.Ns fV mb/\(mg x=some c\/(mg x=none/\mb x=some c))/\c=v :=
 ⟨v,mg,mb,T.g,T.b,.inl (mg_of X T.g e),rfl⟩
def zDt(P:Par)(x:Str)(v:V):Prop:=∃c mg mb,P.B.Ns eJ mg/\P.B.Ns fV mb/\(mg x=some c\/(mg x=none/\mb x=some c))/\∀W n,VR W n v c
theorem zBo(h:∃c mg mb,P.B.Ns eJ mg/\P.B.Ns fV mb/\(mg x=some c\/(mg x=none/\mb x=some c))/\c=v):zDt P x (.top v):=by refine bw h λc mg mb a b d u=>?_;subst u;exact⟨c,mg,mb,a,b,d,λq q=>.top _⟩
theorem zNf(h:∃c mg mb,P.B.Ns eJ mg/\P.B.Ns fV mb/\(mg x=some c\/(mg x=none/\mb x=some c))/\c=.int i t):zDt P x (.int i):=by refine bw h λc mg mb a b d u=>?_;subst u;exact⟨_,mg,mb,a,b,d,λq q=>.int _ _⟩
end
section
variable{P:Par}{pv:iY}{loose:List Str}{mg mb:Str->Option j7}
theorem fc{α:Type}{p:α->Prop}{a:α}{l:List α}(h:p a)(t:∀q∈l,p q):∀q∈a::l,p q:=List.forall_mem_cons.mpr ⟨h,t⟩
theorem fn{α:Type}{p:α->Prop}:∀q∈([]:List α),p q:=λz h=>nomatch h
theorem zBq(p:dQ)(X:(K p).In P.B)(T:TopRead pv loose mg mb P.B):∀q∈gl09T,zDt P q.1 q.2:=by
 repeat (refine fc (p:=λq:Str×V=>zDt P q.1 q.2) (by first|exact zBo (glB X T (by rfl) (by rfl) pi)|exact zBo (glK X T (by rfl))|exact zNf (glK X T (by rfl))) ?_)
 exact fn
theorem zHt(p:dQ)(X:(K p).In P.B)(T:TopRead pv loose mg mb P.B)(x:Str)(v:V)(h:zHu x=some v):zDt P x v:=zBq p X T (x,v) (zK h)
theorem qNo(p:dQ):∀q∈meths09,findIn (K p) (.ref 266) q.1=some (some (.ref q.2))/\typeIn (K p) (.ref q.2)=some (.type "function"):=by
 repeat (refine fc (p:=λq:Str×Addr=>findIn (K p) (.ref 266) q.1=some (some (.ref q.2))/\typeIn (K p) (.ref q.2)=some (.type "function")) ⟨by rfl,by rfl⟩ ?_)
 exact fn
theorem qVc(p:dQ):∀f∈flds09,findIn (K p) (.ref 266) f=some none:=by
 repeat (refine fc (p:=λf=>findIn (K p) (.ref 266) f=some none) (by rfl) ?_)
 exact fn
set_option tactic.hygienic true in
theorem qAr{β:Type}{b:β}:∀{l:List (Addr×β)},l.lookup a=some b->(a,b)∈l:=by
 intro D;induction D with
 |nil=>exactλh=>nomatch h
 |cons zp l u =>
  obtain⟨c,d⟩:=zp;intro h;simp only[iO]at h;split at h
  .rename_i q;subst h;simp only[beq_iff_eq.mp q];exact .head _
  .exact .tail _ (u h)
theorem qZn(p:dQ)(X:(K p).In P.B):∀q∈rx09T,∃u,P.B.get? q.1=some (Mine.Lake.Re.boundObj "re.Pattern.match" u)/\Mine.Lake.Re.PatAt P.B u q.2:=by
 repeat (refine fc (p:=λq:Addr×Array Nat=>∃u,P.B.get? q.1=some (Mine.Lake.Re.boundObj "re.Pattern.match" u)/\Mine.Lake.Re.PatAt P.B u q.2) ⟨_,X _ _ (by rfl),⟨_,_,_,X _ _ (by rfl),by rfl,by rfl,by rfl,by rfl,by rfl,_,_,_,X _ _ (by rfl),by rfl,by first|rfl|kernel_rfl⟩⟩ ?_)
 exact fn
theorem qZz(p:dQ)(X:(K p).In P.B)(a:Addr)(code:Array Nat)(h:qZy a=some code):Mine.Lake.Re.PatAt P.B a code/\∃o,P.B.get? a=some o/\o.cls=.type "re.Pattern"/\o.dict=none:=by
 by_cases e:a=73
 .replace h:=aw e h;subst h;subst e;exact⟨⟨_,_,_,X _ _ (by rfl),by rfl,by rfl,by rfl,by rfl,by rfl,_,_,_,X _ _ (by rfl),by rfl,by first|rfl|kernel_rfl⟩,_,X _ _ (by rfl),by rfl,by rfl⟩
 .replace h:=ao e h;cases h
theorem zPe(p:dQ)(X:(K p).In P.B)(T:TopRead pv loose mg mb P.B):PrgOk P (G09 p):=
 ⟨⟨X,by rfl,by rfl,by rfl,by rfl,by rfl,by rfl⟩,zOw p,λa code h=>qZn p X (a,code) (qAr h),qZz p X,λm g h=>qNo p (m,g) (zK h),λf h=>qVc p f (by
  have u:flds09.contains f=true:=h
  simpa using u),zHt p X T⟩
theorem qNf(p:dQ):∀q∈rows09,kG (K p) q.1 q.2.1 q.2.2.1 q.2.2.2:=by
 repeat (refine fc (p:=λq:Addr×Scope×List Str×S=>kG (K p) q.1 q.2.1 q.2.2.1 q.2.2.2) (by first|exact zMk p|exact zMj p|exact zMi p|exact zMh p|exact zMg p|exact zMf p|exact zMe p|exact zMd p|exact zMc p|exact zMb p|exact zMa p|exact zLz p|exact zLy p) ?_)
 exact fn
theorem qUe(p:dQ):qPg (G09 p).K rows09:=λa sc ps b h=>qNf p (a,sc,ps,b) (qAr h)
theorem zEl(p:dQ)(X:(K p).In P.B)(T:TopRead pv loose mg mb P.B)(n:Nat):SxOk P (tower (G09 p) rows09 172 n):=
 yW (zPe p X T) T.nolimit (qUe p) (by rfl) (by rfl) n
end
def start09(ns:List Int):St:=entryC zBc [("script",.list (ns.map .int))] H0
def qRu:Prop:=∀p,∀ns:List Int,ns.length<=63->∃σ',ex qQs (tower (G09 p) rows09 172 6) (start09 ns)=.ok (.ret (.bool true)) σ'
theorem qKa{W:Wd}{n:Nat}:∀{u:Lv}{ns:List Int},IntsAre u ns->VRs W n (ns.map .int) u
 |_,_,.nil=>.nil
 |_,_,.cons _ _ r=>.cons (.int _ _) (qKa r)
theorem qAs:∀{u:Lv}{ns:List Int},IntsAre u ns->u.length=ns.length
 |_,_,.nil=>rfl
 |_,_,.cons _ _ r=>g0 pL (qAs r)
theorem qUh(l:List PyData):∃xs,ofPy (nT l)=.list xs:=by first|exact⟨_,rfl⟩|(exact⟨_,rfl⟩)
theorem zRw{α β:Type}{a:α}{b:β}{p:α->β->Prop}(h:p a b):∀x c,(x,c)∈[(a,b)]->p x c:=λx c m=>by
 cases m with
 |head=>exact h
 |tail _ h=>cases h
theorem zSb{f:Addr->Option Obj}(h:f a=some o):∀b u,(if b=a then some o else none)=some u->f b=some u:=λb u e=>by
 by_cases q:b=a
 .rw[d3 q]at e;rw[q,h];exact e
 .rw[b6 q]at e;exact zN1 e
theorem zGx(w:Well P h (.ref a) (ofPy (.list l)))(e:h.get? a=some o):o.dict=none:=by
 obtain⟨xs,q⟩:=qUh l;rw[q]at w;cases w with
 |list r _=>rw[r]at e;cases e;rfl
local macro_rules | `(tactic| k_qdec)=>`(tactic| decide +kernel)
set_option tactic.hygienic true in
theorem joined(plain:qRu):PySem.Challenge.rw_dm0167_06.Holds:=hd (by
 k_go0
 rename_i w dA a9 mg mb G Y fa o pm doc ho hg KX X V GL T B TE TW m1 m2 M c1 c2 hcd ns hs hlay0 hL0 hr0 hl2 u5 u4 a vs u1 hL ra hW1 r0 hI hr hcond1 hcond2 K0 hD aE dB F wa ca N0 X0
 refine bC λn0=>?_
 obtain⟨lo,hlo,hlc,ln,hld⟩:=hL
 obtain⟨σ',hex⟩:=plain w.params ns (by omega)
 refine n0 ?_
 obtain hvl:=qAs hI
 refine zHh (P:=⟨PySem.Challenge.rw_dm0167_06.row.prog,w,a9.heap,a9.os⟩) (sc:=zBc) (ps:=["script"]) (args:=[.list (ns.map .int)]) (cargs:=[.ref a]) (L:=a9.heap.objs.size) (fz:=λb=>if b=a then some lo else none) (cx:=tower (G09 w.params) rows09 172 6) (b:=qQs) (v:=.bool true) (σ':=σ')
  (by decide +kernel) rfl rfl rfl rfl rfl rfl rfl F.ns F.keep (zRw ⟨wa,(N0 _ (.head _)).1,ca⟩) (zSb hlo) (.cons (.list (d3 rfl) hlc hld ?_ (qKa hI) (zGx hW1 hlo)) .nil) hg rfl (zEl w.params KX (topRead_of T) 6) (by simp only[wO];decide) (by(repeat' first|exact rfl|decide +kernel|exact(λq q q=>rfl)|exact⟨_,_,rfl⟩|constructor)) hex (λW c s' hv hk ho hg=>?_)
 .simp only[s8,lG];omega
 .cases hv
  refine⟨.inl ⟨_,_,_,rfl,λcls=>?_,.bool true,?_,λq=>⟨List.nodup_nil,λa ha=>by cases ha⟩⟩,hk,ho,hg⟩
  .rfl
  .first|rfl|kernel_rfl|w_fin)
end Mine.Lake.L09
namespace Mine.Lake.Rp
open PySem StrLaws PySem.Builtin PySem.Builtin.Str
noncomputable def rp(y z:Ln):Nat->Ln->Ln
 |_,[]=>[]
 |k+1,_::l=>rp y z k l
 |0,c::l=>if(c::l).take y.length=y then z++rp y z (y.length-1) l else c::rp y z 0 l
noncomputable def oc(y:Ln):Nat->Nat->Ln->Ln
 |_,_,[]=>[]
 |i,k+1,_::l=>oc y (i+1) k l
 |i,0,c::l=>if(c::l).take y.length=y then i::oc y (i+1) (y.length-1) l else oc y (i+1) 0 l
theorem wH{α:Type}{xs:List α}(h:xs.drop i=[]):xs.length<=i:=List.drop_eq_nil_iff.mp h
theorem jQ{α:Type}{xs l:List α}{c:α}(h:xs.drop i=c::l):i<xs.length:=Nat.lt_of_not_le λq=>by
 replace h:=(hP q).symm.trans h;cases h
theorem qEk{α:Type}{xs y:List α}(hi:i<=xs.length)(h:(xs.drop i).take y.length=y):i+y.length<=xs.length:=by have:=g0 List.length h;rw[w9,t3]at this;exact Nat.add_le_of_le_sub' hi (by rw[<- this];exact gB _ _)
section
variable{x:Str}{y z:Ln}
theorem zMs(T:y≠[])(n:Nat)(N:n=x.length):∀(l:Ln)(i k free:Nat)(found:Array Nat),free-i=k->x.cps.toList.drop i=l->found.size<=i->i<=n ->
  (forIn (fN i (n+1-i)) (found,free) (occBody x ⟨y.toArray⟩ n (n+1))).run.fst.toList=found.toList++oc y i k l:=by
 intro U;induction U with
 |nil =>
  intro i k free found hk h hs hi;have:i=n:=eW hi ((by rw[N];exact h9:x.cps.toList.length=n)▸wH h);subst this;rw[(by
   rw[w7];rfl:fN i (i+1-i)=[i])]
  rw[mW];unfold occBody;rw[b6 (λq=>d9 q.1.2 (Nat.not_le.mpr (w8 (by
   show 0<y.toArray.size
   rw[s8]
   exact List.length_pos_iff.mpr T))))]
  rw[show oc y i k []=[]from rfl];simp
 |cons c l L =>
  intro i k free found hk h hs hi;have u:x.cps.toList.length=n:=by rw[N];exact h9
  have D:i<n:=u▸jQ h;have J:x.cps.toList.drop (i+1)=l:=by rw[<- lD,h];rfl
  have F:(⟨y.toArray⟩:Str).length=y.length:=by show y.toArray.size=_;rw[s8]
  have I:(i+(⟨y.toArray⟩:Str).length<=n/\subAt x ⟨y.toArray⟩ i=true) ↔ (c::l).take y.length=y:=by
   rw[subAt_eq,h,F];constructor
   .intro q;simpa using q.2
   .intro q;refine⟨?_,by simpa using q⟩;rw[<- h]at q;exact u▸qEk (u.symm▸hi) q
  rw[(by
   rw[gJ,rL (m9 D)];rfl:fN i (n+1-i)=i::fN (i+1) (n+1-(i+1))),mW]
  unfold occBody;cases k with
  |succ k =>
   rw[b6 (λq=>by rw[(eZ q.1.1.2)]at hk;cases hk)]
   exact L (i+1) k free found (by rw[Nat.sub_succ,hk];rfl) J (m3 hs) D
  |zero =>
   by_cases hc:(c::l).take y.length=y
   .obtain⟨S,O⟩:=I.mpr hc;rw[d3 ⟨⟨⟨v7 (b7 hs hi),Nat.sub_eq_zero_iff_le.mp hk⟩,S⟩,O⟩];obtain ih:=L (i+1) (y.length-1) (i+(⟨y.toArray⟩:Str).length) (found.push i) (by rw[F,Nat.add_sub_add_left]) J (by rw[size_push];exact n9 hs) D;obtain e:oc y i 0 (c::l)=i::oc y (i+1) (y.length-1) l:=d3 hc;rw[e];refine Eq.trans ih ?_;rw[mG,u3];rfl
   .rw[b6 (λq=>hc (I.mp ⟨q.1.2,q.2⟩))];obtain e:oc y i 0 (c::l)=oc y (i+1) 0 l:=b6 hc;rw[e];exact L (i+1) 0 free found (by rw[Nat.sub_succ,hk];rfl) J (m3 hs) D
theorem qNj(u:y≠[]):occurrences x ⟨y.toArray⟩ 0 x.length (x.length+1)=oc y 0 0 x.cps.toList:=by rw[occ_eq];exact zMs u x.length rfl x.cps.toList 0 0 0 #[] rfl rfl (v0 _) (v0 _)
theorem qUr(z p:Str)(h:r≠[]):pQ z (p::r)=p++z++pQ z r:=by
 cases r with
 |nil=>exact d9 rfl h
 |cons a r=>rfl
theorem zAa{u:Ln}:partsFrom x w a u≠[]:=by cases u <;> exact lC _ _
theorem jZ(x:Str)(a b:Nat):(strSub x a b).cps.toList=(x.cps.toList.drop a).take (b-a):=strSub_toList x a b
theorem qZp(S:y≠[]):∀(l:Ln)(i k a:Nat),x.cps.toList.drop i=l->i<=x.length->(k=0->a<=i)->(0<k->a=i+k)->a<=x.length ->
  (pQ ⟨z.toArray⟩ (partsFrom x y.length a (oc y i k l))).cps.toList=(x.cps.toList.drop a).take (i-a)++rp y z k l:=by
 intro T;induction T with
 |nil =>
  intro i k a h hi N h1 I;have u:x.cps.toList.length=x.length:=h9;obtain hge:x.length<=i:=u▸wH h;rw[(by cases k <;> rfl:oc y i k []=[]),(by cases k <;> rfl:rp y z k []=[]),eF];show(strSub x a x.length).cps.toList=_;rw[jZ];by_cases hk:k=0
  .have:=N hk;rw[eW hi hge]
  .have:=h1 (r6 hk);exact d9 (b7 I hge) (this▸Nat.not_le.mpr (w8 (r6 hk)))
 |cons c l O =>
  intro i k a h hi N h1 I;obtain u:x.cps.toList.length=x.length:=h9;have D:i<x.length:=u▸jQ h;have J:x.cps.toList.drop (i+1)=l:=by rw[<- lD,h];rfl
  cases k with
  |succ k =>obtain ha':=h1 (eQ _);show(pQ _ (partsFrom x y.length a (oc y (i+1) k l))).cps.toList=_++rp y z k l;rw[O (i+1) k a J D (λq=>by rw[ha',q];exact i5 _) (λw=>ha'.trans (i8 i k 1)) I];rw[eZ (ha'▸e6 (eQ k) i),eZ (ha'▸n5 i _)]
  |zero =>
   have F:=N rfl;by_cases hc:(c::l).take y.length=y
   .obtain e1:oc y i 0 (c::l)=i::oc y (i+1) (y.length-1) l:=d3 hc;obtain e2:rp y z 0 (c::l)=z++rp y z (y.length-1) l:=d3 hc;have hp:0<y.length:=List.length_pos_iff.mpr S;have L:i+y.length<=x.length:=u▸qEk (u.symm▸hi) (h.symm▸hc);rw[e1,e2];show(pQ _ (strSub x a i::partsFrom x y.length (i+y.length) _)).cps.toList=_;rw[qUr _ _ zAa];show(((strSub x a i).cps++z.toArray)++(pQ _ _).cps).toList=_;rw[mB,mB,jZ,O (i+1) (y.length-1) (i+y.length) J D (λq=>e6 (pG q) i) (λw=>by rw[i7,dT hp]) L];rw[eZ (e6 hp i),pR,nil_append,u3]
   .have e1:oc y i 0 (c::l)=oc y (i+1) 0 l:=b6 hc;have e2:rp y z 0 (c::l)=c::rp y z 0 l:=b6 hc;rw[e1,e2,O (i+1) 0 a J D (λw=>m3 F) (λq=>d9 q (fP 0)) I];rw[(by
     rw[rL F,List.take_add_one]
     congr 1
     rw[iU,dT F]
     have:(x.cps.toList.drop i)[0]?=some c:=by rw[h];rfl
     rw[iU,oJ]at this
     rw[this];rfl:(x.cps.toList.drop a).take (i+1-a)=(x.cps.toList.drop a).take (i-a)++[c]),u3];rfl
theorem zGf(F:y≠[]):∀(l:Ln)(i k:Nat),oc y i k l=[]->k=0->rp y z k l=l:=by
 intro D;induction D with
 |nil=>intro i k h hk;subst hk;rfl
 |cons c l u =>
  intro i k h hk;subst hk;by_cases hc:(c::l).take y.length=y
  .have e1:oc y i 0 (c::l)=i::oc y (i+1) (y.length-1) l:=d3 hc;rw[e1]at h;cases h
  .have e1:oc y i 0 (c::l)=oc y (i+1) 0 l:=b6 hc;obtain e2:rp y z 0 (c::l)=c::rp y z 0 l:=b6 hc;rw[e1]at h;rw[e2,u (i+1) 0 h rfl]
set_option tactic.hygienic true in
theorem qNg(u:y≠[]):(dJ x ⟨y.toArray⟩ ⟨z.toArray⟩).cps.toList=rp y z 0 x.cps.toList:=by
 have D:(⟨y.toArray⟩:Str).length=y.length:=by show y.toArray.size=_;rw[s8]
 obtain hp:0<y.length:=List.length_pos_iff.mpr u;unfold dJ;rw[qNj u];split
 .rename_i hc;rw[eS,i6]at hc;rcases hc with hc|hc
  .exact(zGf u _ 0 0 (List.isEmpty_iff.mp hc) rfl).symm
  .have:=beq_iff_eq.mp hc.1;rw[D]at this;lia
 .rw[glued_eq_join,pD,D,qZp u x.cps.toList 0 0 0 rfl (v0 _) (λq=>i5 _) (λh=>d9 h (fP _)) (v0 _)];simp
end
end Mine.Lake.Rp
namespace Mine.Lake.Rp
open PySem
section
variable{y z:Ln}
def four(l:Ln):Ln:=rp [120,120] [120] 0 (rp [120,120] [120] 0 (rp [120,120,120,120] [120] 0 (rp [120,120,120,120,120,120,120,120] [120] 0 l)))
def lastp(l:Ln):Ln:=rp [10,120] [10] 0 l
def isLine(p:Ln):Prop:=∃q,p=q++[10]
theorem uC{y z:Ln}(D:10∉y)(F:y≠[]):∀{q:Ln}{k:Nat},k<=q.length->isLine (rp y z k (q++[10]))
 | [],k,hk=>by
  obtain rfl:k=0:=Nat.le_zero.mp hk;refine⟨[],?_⟩;show(if([10]:Ln).take y.length=y then _ else _)=_;rw[b6]
  .rfl
  .intro q;cases y with
   |nil=>exact F rfl
   |cons a r =>rw[g5,eR]at q;exact D (by rw[<- (t9 q).1];exact .head _)
 |c::q,0,_=>by
  by_cases hc:(c::q++[10]).take y.length=y
  .obtain hle:y.length<=(c::q).length:=by refine Nat.not_lt.mp λJ=>D ?_;rw[<- hc,List.take_append,pE];refine .inr ?_;obtain⟨n,L⟩:∃n,y.length-(c::q).length=n+1:=Nat.exists_eq_succ_of_ne_zero (pF J);rw[L,eR];exact .head _
   rw[g5]at hle;have e2:rp y z 0 (c::q++[10])=z++rp y z (y.length-1) (q++[10]):=d3 hc;obtain⟨u,I⟩:=uC (z:=z) D F (q:=q) (k:=y.length-1) (by simp[hle]);exact⟨z++u,by rw[e2,I,u3]⟩
  .have e2:rp y z 0 (c::q++[10])=c::rp y z 0 (q++[10]):=b6 hc;obtain⟨u,I⟩:=uC (z:=z) D F (q:=q) (k:=0) (v0 _);exact⟨c::u,by rw[e2,I];rfl⟩
 |c::q,k+1,hk=>uC (q:=q) D F (r7 hk)
end
end Mine.Lake.Rp
namespace Mine.Lake
open PySem PySem.W PyProof.Rows
theorem zIi:ev cx (.v x) σ=(match σ.l.lookup x with|some v=>.ok v σ|Option.none=>.bad):=rfl
theorem zNp:ev cx (.cv x) σ=(match σ.e.lookup x with
  |some k=>(match σ.o k with|some (.cell (some v))=>.ok v σ|_=>.bad)
  |Option.none=>.bad):=rfl
theorem zCe:ev cx (.g x) σ=(match cx.gl x with|some v=>.ok v σ|Option.none=>.bad):=rfl
theorem zIp:ev cx (.bin op a b) σ=((ev cx a σ).bind λu a0=>(ev cx b a0).bind λD a7=>(qOx a7.h op u D).st a7):=rfl
theorem zIl:ev cx (.not a) σ=((ev cx a σ).bind λu a0=>match truV a0.h u with|some b=>.ok (.bool !b) a0|Option.none=>.bad):=rfl
theorem zIo:ev cx (.cmp op a b) σ=((ev cx a σ).bind λu a0=>(ev cx b a0).bind λD a7=>(uS a7.h op u D).st a7):=rfl
theorem evq_and:ev cx (.and a b) σ=((ev cx a σ).bind λu a0=>condR u a0 (ev cx b) (λa0=>.ok u a0)):=rfl
theorem evq_or:ev cx (.or a b) σ=((ev cx a σ).bind λu a0=>condR u a0 (λa0=>.ok u a0) (ev cx b)):=rfl
theorem zIm:ev cx (.ite c a b) σ=((ev cx c σ).bind λu a0=>condR u a0 (ev cx a) (ev cx b)):=rfl
theorem zIn:ev cx (.idx a i) σ=((ev cx a σ).bind λD a0=>(ev cx i a0).bind λu a7=>(idxV a7.h D u).st a7):=rfl
theorem zIk:ev cx (.slc a u hi) σ=((ev cx a σ).bind λF a0=>(ev cx u a0).bind λI a7=>(ev cx hi a7).bind λD aD=>(yF aD.h F I D).st aD):=rfl
theorem zCh:ev cx (.attr o f) σ=((ev cx o σ).bind λvo a0=>(cx.fld vo f a0.h).st a0):=rfl
theorem qKl:ev cx (.list es) σ=((ev cx es σ).bind λu a0=>jT u a0 λxs a0=>fits xs.length (.ok (.list xs) a0)):=rfl
theorem zIj:ev cx (.tup es) σ=((ev cx es σ).bind λu a0=>jT u a0 λxs a0=>fits xs.length (.ok (.tup xs) a0)):=rfl
theorem qKm:ev cx (.cons a b) σ=((ev cx a σ).bind λD a0=>(ev cx b a0).bind λu a7=>jT u a7 λxs a7=>.ok (.list (D::xs)) a7):=rfl
theorem zCg:ev cx (.call f as) σ=((ev cx f σ).bind λvf a0=>(ev cx as a0).bind λu a7=>jT u a7 λxs a7=>(cx.app vf xs a7.h).lift a7):=rfl
theorem zCd:ev cx (.m o m as) σ=((ev cx o σ).bind λvo a0=>match cx.get vo m a0.h with
  |some (vf,first)=>(ev cx as a0).bind λu a7=>jT u a7 λxs a7=>(cx.app vf (first++xs) a7.h).lift a7
  |Option.none=>.bad):=rfl
theorem zCf{cond:_}:ev cx (.comp elt x it cond) σ=((ev cx it σ).bind λD a0=>match itsV a0.h D with
  |some xs=>(turns D xs (λv a7=>(ev cx cond { a7 with l:=[(x,v)],e:=a0.e }).bind λb aD=>qAw b aD (ev cx elt)) xs a0).bind λu a7=>fits u.length (.ok (.list u) { a0 with h:=a7.h })
  |Option.none=>.bad):=rfl
theorem qVg:ev cx (.comp2 elt x y it) σ=((ev cx it σ).bind λD a0=>match itsV a0.h D with
  |some xs=>(turns D xs (λv a7=>(qGa x y v).elim .bad λl=>(ev cx elt { a7 with l:=l,e:=a0.e }).bind λr aD=>.ok (some r) aD) xs a0).bind λu a7=>fits u.length (.ok (.list u) { a0 with h:=a7.h })
  |Option.none=>.bad):=rfl
theorem zCa:ex (.each x it b) cx σ=((ev cx.c it σ).bind λv a0=>match itsV a0.h v with
  |some xs=>eachF v xs (λu σ=>ex b cx (σ.set x u)) xs a0
  |none=>.bad):=rfl
set_option tactic.hygienic true in
theorem zIg:ex (.aug x e) cx σ=((ev cx.c (.v x) σ).bind λu aQ=>(ev cx.c e aQ).bind λv a0=>((augV u v).st a0).bind λr a7=>.ok .next (a7.set x r)):=rfl
theorem qVe:ex (.setA2 o f F u e) cx σ=((ev cx.c e σ).bind λv a0=>jR v λa b=>(ev cx.c o a0).bind λvo a7=>(kV ((cx.setA vo f a a7.h).map λH=>{ a7 with h:=H })).bind λ_ aD =>
   (ev cx.c F aD).bind λD aP=>kV ((cx.setA D u b aP.h).map λH=>{ aP with h:=H })):=rfl
theorem zNn:ex (.sq x u ps b) cx σ=(match σ.l.lookup x with
  |some (.str v)=>(cx.gl u).elim .bad λvt=>(cx.tr vt).elim .bad λf=>(qMo f ps v).elim .bad λv'=>ex b cx (σ.set x (.str v'))
  |_=>.bad):=rfl
theorem qVf:ex (.eachC x it b) cx σ=((ev cx.c it σ).bind λv a0=>match itsV a0.h v with
  |some xs=>eachF v xs (λu σ=>match σ.setC x u with|some σ'=>ex b cx σ'|none=>.bad) xs a0
  |none=>.bad):=rfl
inductive Gd{α:Type}(r:Rs α)(Q:α->St->Prop):Prop where
 |mk(a:α)(σ:St)(h1:r=.ok a σ)(h2:Q a σ)
section
theorem Gd.mono{r:Rs α}{Q Q':α->St->Prop}(h:Gd r Q)(u:∀a σ,Q a σ->Q' a σ):Gd r Q':=let⟨a,σ,e,q⟩:=h;⟨a,σ,e,u a σ q⟩
theorem qG{a b:S}(h:Gd (ex a cx σ) λf a0=>match f with| .next=>Gd (ex b cx a0) Q|f=>Q f a0):Gd (ex (.seq a b) cx σ) Q:=by
 obtain⟨f,a0,e,h⟩:=h;obtain hev:ex (.seq a b) cx σ=goOn f a0 (ex b cx):=(Rs.bind_ok e:_)
 rw[hev];clear hev;cases f with
 |next=>exact h
 |_=>exact⟨_,a0,rfl,h⟩
set_option tactic.hygienic true
theorem qF(h:Q .next σ):Gd (ex .nil cx σ) Q:=⟨_,_,rfl,h⟩
theorem zNk(u:ev cx.c e σ=.ok v a0)(h:Q .next (a0.set x v)):Gd (ex (.a x e) cx σ) Q:=⟨_,_,(Rs.bind_ok u:_),h⟩
theorem zIa(u:ev cx.c e σ=.ok v a0)(h:Q .next a0):Gd (ex (.expr e) cx σ) Q:=⟨_,_,(Rs.bind_ok u:_),h⟩
set_option tactic.hygienic false
theorem vJ(u:ev cx.c e σ=.ok v a0)(h:Q (.ret v) a0):Gd (ex (.ret e) cx σ) Q:=⟨_,_,(Rs.bind_ok u:_),h⟩
set_option tactic.hygienic true in
theorem qOd(u:ev cx.c e σ=.ok (.list xs) a0)(h:Q .next ((a0.add (.list xs)).set x (.ref a0.n))):Gd (ex (.own x e) cx σ) Q:=⟨_,_,(Rs.bind_ok u:_),h⟩
theorem jP(u:ev cx.c c σ=.ok v a0)(D:truV a0.h v=some t)(h1:t->Gd (ex a cx a0) Q)(h2:t=false->Gd (ex b cx a0) Q):Gd (ex (.ite c a b) cx σ) Q:=by
 obtain hev:ex (.ite c a b) cx σ=condS v a0 (ex a cx) (ex b cx):=(Rs.bind_ok u:_)
 rw[hev];unfold condS;rw[D];cases t with
 |true=>exact h1 rfl
 |false=>exact h2 rfl
set_option tactic.hygienic true in
theorem qHr(u:ev cx.c e σ=.ok (.tup [a,b]) a0)(h:Q .next ((a0.set x a).set y b)):Gd (ex (.asg2 x y e) cx σ) Q:=⟨_,_,(Rs.bind_ok u:_),h⟩
set_option tactic.hygienic true in
abbrev LQ(I:St->Prop)(Q:Fl->St->Prop)(f:Fl)(σ':St):Prop:=match f with
 | .next=>I σ'
 | .cont=>I σ'
 | .brk=>Q .next σ'
 | .ret u=>Q (.ret u) σ'
theorem xJ(I:Nat->St->Prop)(O:I n σ)(L:∀k σ,I k σ->∃D,k=D+1/\∃v a0 t,ev cx.c c σ=.ok v a0/\truV a0.h v=some t/\(t->Gd (ex b cx a0) (LQ (I D) Q))/\(t=false->Gd (ex o cx a0) Q)):Gd (ex (.loop n c b o) cx σ) Q:=(by
  intro k
  induction k with
  |zero=>intro σ F;refine ae (L 0 σ F) λD e q=>?_;cases e
  |succ k J =>
   intro σ F
   obtain⟨D,e,v,a0,t,e1,e2,h1,h2⟩:=L _ σ F
   injection e with e;subst e
   show Gd ((tr (ev cx.c c) σ).bind λt σ=>if t then(ex b cx σ).bind (qAm (vE (tr (ev cx.c c)) (ex b cx) (ex o cx) k))else ex o cx σ) Q
   rw[(by unfold tr;rw[Rs.bind_ok e1];unfold truRs;rw[e2]:tr (ev cx.c c) σ=.ok t a0)]
   cases t with
   |true =>
    obtain⟨f,σ',N,h3⟩:=h1 rfl
    show Gd ((ex b cx a0).bind _) Q
    rw[N]
    cases f with
    |next=>exact J σ' h3
    |cont=>exact J σ' h3
    |brk=>exact⟨_,_,rfl,h3⟩
    |ret u=>exact⟨_,_,rfl,h3⟩
   |false=>exact h2 rfl:∀k σ,I k σ->Gd (vE (tr (ev cx.c c)) (ex b cx) (ex o cx) k σ) Q) n σ O
set_option tactic.hygienic true
theorem qKh(I:List V->St->Prop)(N:I xs a0)(F:∀l σ,I l σ->itsV σ.h v=some xs)(O:∀y r σ,I (y::r) σ->Gd (b y σ) (LQ (I r) Q))(J:∀σ,I [] σ->Q .next σ):Gd (eachF v xs b xs a0) Q:=by
 obtain main:∀l σ,I l σ->Gd (eachF v xs b l σ) Q:=by
  intro l;induction l with
  |nil =>intro σ D;exact⟨.next,σ,qKo (F _ _ D),J σ D⟩
  |cons y r L =>
   intro σ D;obtain⟨f,σ',e,h⟩:=O y r σ D;rw[qRc (F _ _ D),e];cases f with
   |next=>exact L σ' h
   |cont=>exact L σ' h
   |brk=>exact⟨_,_,rfl,h⟩
   |ret u=>exact⟨_,_,rfl,h⟩
 exact main xs a0 N
theorem zIb(N:ev cx.c it σ=.ok v a0)(hi:itsV a0.h v=some xs)(I:List V->St->Prop)(L:I xs a0)(F:∀l σ,I l σ->itsV σ.h v=some xs)(J:∀y r σ,I (y::r) σ->Gd (ex b cx (σ.set x y)) (LQ (I r) Q))(D:∀σ,I [] σ->Q .next σ):Gd (ex (.each x it b) cx σ) Q:=by
 rw[(by
  rw[zCa,Rs.bind_ok N,hi]:ex (.each x it b) cx σ=eachF v xs (λu σ=>ex b cx (σ.set x u)) xs a0)]
 exact qKh I L F J D
theorem xI(D:ev cx.c e σ=.ok v a0)(u:ev cx.c o a0=.ok vo a7)(hs:cx.setA vo f v a7.h=some H)(h:Q .next { a7 with h:=H }):Gd (ex (.setA o f e) cx σ) Q:=by refine⟨_,_,(Rs.bind_ok D:_).trans ((Rs.bind_ok u:_).trans ?_),h⟩;rw[hs];rfl
set_option tactic.hygienic false
end
theorem Str.eq_of{a b:Str}(h:a.cps.toList=b.cps.toList):a=b:=by cases a;cases b;simp only at h;congr;exact Array.toList_inj.mp h
theorem Str.beq_list(a b:Str):(a==b)=(a.cps.toList==b.cps.toList):=by
 by_cases h:a=b
 .subst h;simp
 .have:a.cps.toList≠b.cps.toList:=λq=>h (Str.eq_of q);simp only[beq_eq_false_iff_ne.mpr h,beq_eq_false_iff_ne.mpr this]
section
theorem zSs:uS H .Eq (.int a) (.int b)=.ok (.bool (a==b)):=rfl
theorem zSq:uS H .NotEq (.int a) (.int b)=.ok (.bool (a != b)):=rfl
theorem zSr:uS H .Eq (.str x) (.str y)=.ok (.bool (x.cps.toList==y.cps.toList)):=by rw[<- Str.beq_list];rfl
theorem zSp:uS H .NotEq (.str x) (.str y)=.ok (.bool (x.cps.toList != y.cps.toList)):=by show Ov.ok (.bool (!(x==y)))=_;rw[Str.beq_list];rfl
theorem gd_brk(h:Q .brk σ):Gd (ex .brk cx σ) Q:=⟨_,_,rfl,h⟩
theorem uO(h:Q .cont σ):Gd (ex .cont cx σ) Q:=⟨_,_,rfl,h⟩
theorem qQz(h:Q (.ret .none) σ):Gd (ex .ret0 cx σ) Q:=⟨_,_,rfl,h⟩
set_option tactic.hygienic true
theorem uP(u:ev cx.c e σ=.ok v a0)(h:Q .next ((a0.set x v).set y v)):Gd (ex (.asgs x y e) cx σ) Q:=⟨_,_,(Rs.bind_ok u:_),h⟩
theorem zId(u:ev cx.c e σ=.ok v a0)(hs:a0.setC x v=some a7)(h:Q .next a7):Gd (ex (.asgC x e) cx σ) Q:=by refine⟨_,a7,(Rs.bind_ok u:_).trans ?_,h⟩;rw[hs];rfl
theorem qFq(u:ev cx.c e σ=.ok v a0)(D:truV a0.h v=some true)(h:Q .next a0):Gd (ex (.assert e) cx σ) Q:=by refine⟨.next,a0,(Rs.bind_ok u:_).trans ?_,h⟩;unfold condS;rw[D]
theorem zHz(D:ev cx.c e σ=.ok (.list xs) a0)(u:ev cx.c o (a0.add (.list xs))=.ok vo a7)(hs:cx.setA vo f (.ref a0.n) a7.h=some H)(h:Q .next (({ a7 with h:=H }:St).set x (.ref a0.n))):Gd (ex (.ownA o f x e) cx σ) Q:=by refine⟨.next,_,(Rs.bind_ok D:_).trans ((Rs.bind_ok u:_).trans ?_),h⟩;rw[hs];rfl
set_option tactic.hygienic false
theorem zQb{b:S}(hv:σ.l.lookup x=some (.str v))(hg:cx.gl u=some vt)(D:cx.tr vt=some f)(hs:qMo f ps v=some v')(h:Gd (ex b cx (σ.set x (.str v'))) Q):Gd (ex (.sq x u ps b) cx σ) Q:=by
 rw[(by
  rw[zNn,hv]
  rw[hg]
  show(cx.tr vt).elim Rs.bad _=_
  rw[D]
  show(qMo f ps v).elim Rs.bad _=_
  rw[hs];rfl:ex (.sq x u ps b) cx σ=ex b cx (σ.set x (.str v')))];exact h
set_option tactic.hygienic true
theorem zBt{a b:V}(N:ev cx.c e σ=.ok (.tup [a,b]) a0)(L:ev cx.c o a0=.ok vo a7)(hs:cx.setA vo f a a7.h=some H)(F:ev cx.c D { a7 with h:=H }=.ok u aP)(J:cx.setA u I b aP.h=some H')(h:Q .next { aP with h:=H' }):Gd (ex (.setA2 o f D I e) cx σ) Q:=by
 refine⟨.next,_,?_,h⟩;rw[qVe,Rs.bind_ok N];show(ev cx.c o a0).bind _=_;rw[Rs.bind_ok L,hs];show(ev cx.c D { a7 with h:=H }).bind _=_;rw[Rs.bind_ok F,J];rfl
theorem zIc{y:V}(D:σ.l.lookup x=some (.ref k))(u:σ.o k=some (.list (y::ys)))(h:Q .next { σ with o:=λj=>if j=k then some (.list (y::ys).dropLast)else σ.o j }):Gd (ex (.delL x) cx σ) Q:=by refine⟨.next,_,?_,h⟩;show qVn x σ=_;unfold qVn;rw[D];show((asO (σ.o k)).map λxs=>(k,xs)).elim Rs.bad _=_;rw[u];rfl
theorem zBu{b:S}(J:ev cx.c it σ=.ok v a0)(hi:itsV a0.h v=some xs)(I:List V->St->Prop)(L:I xs a0)(F:∀l σ,I l σ->itsV σ.h v=some xs)(N:∀y r σ,I (y::r) σ->∃σ',σ.setC x y=some σ'/\Gd (ex b cx σ') (LQ (I r) Q))(D:∀σ,I [] σ->Q .next σ):Gd (ex (.eachC x it b) cx σ) Q:=by
 rw[(by
  rw[qVf,Rs.bind_ok J,hi];first|done|rfl:ex (.eachC x it b) cx σ=eachF v xs (λu σ=>match σ.setC x u with|some σ'=>ex b cx σ'|none=>.bad) xs a0)]
 refine qKh I L F (λy r σ h=>ae (N y r σ h) λσ' e h=>?_) D;rw[e];exact h
set_option tactic.hygienic false
end
end Mine.Lake
namespace Mine.Lake.Rp
open PySem
theorem vH{y z:Ln}(u:z.length<=1):∀(l:Ln)(k:Nat),(rp y z k l).length<=l.length
 | [],k=>by cases k <;> exact i5 _
 |c::l,0=>by
  by_cases h:(c::l).take y.length=y
  .simp only[show rp y z 0 (c::l)=z++rp y z (y.length-1) l from d3 h,g8,g5]
   have:=vH (y:=y) u l (y.length-1)
   exact jd u this
  .simp only[show rp y z 0 (c::l)=c::rp y z 0 l from b6 h,g5,g5]
   exact n9 (vH u l 0)
 |c::l,k+1=>m3 (vH u l k)
theorem zLw:∀(l:Ln)(k:Nat),a∈rp y z k l->a∈z\/a∈l:=by
  intro D;induction D with
  |nil=>intro k h;cases k <;> cases h
  |cons c l u =>
   exact fun
   |0,h=>by
    by_cases hc:(c::l).take y.length=y
    · rw[show rp y z 0 (c::l)=z++rp y z (y.length-1) l from d3 hc,pE]at h
      rcases h with h|h
      · exact .inl h
      · exact(u _ h).imp id (.tail _)
    · rw[show rp y z 0 (c::l)=c::rp y z 0 l from b6 hc,pN]at h
      rcases h with h|h
      · exact .inr (h ▸ .head _)
      · exact(u _ h).imp id (.tail _)
   |k+1,h=>(u k h).imp id (.tail _)
def first(p:Ln):Ln:=lastp (four p)
end Mine.Lake.Rp
namespace Mine.Lake.Rp
open PySem PySem.W
def small(v:Str):Prop:=(∀c∈v.cps.toList,c<128)/\v.length<=1000
theorem uB(h:∀c∈v.cps.toList,c<128):bS v:=by unfold bS;rw[Array.all_eq_true'];intro c hc;have:=h c (Array.mem_toList_iff.mpr hc);exact e9 (b7 this pi)
theorem rep_step(hv:small v){y:Ln}(J:y≠[])(F:z.length<=1)(D:∀c∈z,c<128):qCo v ⟨y.toArray⟩ ⟨z.toArray⟩=true/\small (dJ v ⟨y.toArray⟩ ⟨z.toArray⟩)/\(dJ v ⟨y.toArray⟩ ⟨z.toArray⟩).cps.toList=rp y z 0 v.cps.toList:=by
 refine bo hv λh1 h2=>?_;obtain e:=qNg (x:=v) (z:=z) J;have u:(dJ v ⟨y.toArray⟩ ⟨z.toArray⟩).length<=v.length:=by
  obtain h3:(dJ v ⟨y.toArray⟩ ⟨z.toArray⟩).cps.toList.length<=v.cps.toList.length:=by rw[e];exact vH F _ _
  rw[h9,h9]at h3;exact h3
 have hs:∀c∈(dJ v ⟨y.toArray⟩ ⟨z.toArray⟩).cps.toList,c<128:=by
  intro c hc;rw[e]at hc;rcases zLw _ _ hc with q|q
  .exact D c q
  .exact h1 c q
 have I:(⟨z.toArray⟩:Str).length<=1:=by show z.toArray.size<=1;rw[s8];exact F
 refine⟨?_,⟨hs,b7 u h2⟩,e⟩;unfold qCo;rw[uB hs,oB,i6];refine⟨e9 ?_,e9 ?_⟩
 .have:(v.length+1)*(⟨z.toArray⟩:Str).length<=(v.length+1)*1:=n4 _ I;exact je h2 this
 .have:(1000:Nat)<=j0:=by decide
  lia
theorem vQ(h:qCo v a b):qCm ((a,b)::r) v=qCm r (dJ v a b):=d3 h
noncomputable def zPd:List (Str×Str):=[("xxxxxxxx","x"),("xxxx","x"),("xx","x"),("xx","x"),("\nx","\n")]
theorem zGm:zPd=[(⟨([120,120,120,120,120,120,120,120]:Ln).toArray⟩,⟨([120]:Ln).toArray⟩),(⟨([120,120,120,120]:Ln).toArray⟩,⟨([120]:Ln).toArray⟩),(⟨([120,120]:Ln).toArray⟩,⟨([120]:Ln).toArray⟩),(⟨([120,120]:Ln).toArray⟩,⟨([120]:Ln).toArray⟩),(⟨([10,120]:Ln).toArray⟩,⟨([10]:Ln).toArray⟩)]:=pw
theorem zLu(I:∀c,c<128->f c<128)(hv:small v):∃v',qMo f zPd v=some v'/\v'.cps.toList=lastp (four (v.cps.toList.map f)):=by
 have hm:∀c∈(trText f v).cps.toList,c<128:=by intro c hc;refine bC λT=>?_;obtain⟨d,h1,rfl⟩:=List.mem_map.mp hc;exact T (I d (hv.1 d h1))
 obtain hl:(trText f v).length=v.length:=by show(v.cps.toList.map f).toArray.size=v.cps.size;rw[s8,m8,h9]
 have S:qSf f v=true:=by unfold qSf;rw[uB hm,oB,lB];exactλc hc=>e9 (hv.1 c hc)
 have u:∀c∈([120]:Ln),c<128:=by decide
 refine bg (rep_step (⟨hm,by rw[hl];exact hv.2⟩) (y:=[120,120,120,120,120,120,120,120]) (z:=[120]) pi pi u) λr1 O e1=>bg (rep_step O (y:=[120,120,120,120]) (z:=[120]) pi pi u) λr2 s2 e2=>?_;refine bg (rep_step s2 (y:=[120,120]) (z:=[120]) pi pi u) λr3 s3 N=>bg (rep_step s3 (y:=[120,120]) (z:=[120]) pi pi u) λD s4 L=>?_;refine bg (rep_step s4 (y:=[10,120]) (z:=[10]) pi pi pi) λF s5 J=>⟨dJ _ ⟨([10,120]:Ln).toArray⟩ ⟨([10]:Ln).toArray⟩,?_,J.trans ?_⟩
 .unfold qMo;rw[d3 S,zGm,vQ r1,vQ r2,vQ r3,vQ D,vQ F];rfl
 .rw[L,N,e2,e1];rfl
end Mine.Lake.Rp
namespace Mine.Lake.Rp
open PySem
structure Mk where
 level:Nat
 lno:Nat
 gl:Ln
 cont:Nat
deriving DecidableEq
set_option genCtorIdx true in
inductive Md where
 |out
 |txt(q w first:Nat)
noncomputable def quoteOf(q w:Nat):Ln:=replicate (w+1) q
noncomputable def Mk.line(m:Mk):Mk:={ m with lno:=m.lno+1,gl:=if m.level=0 then m.gl++[m.lno+1]else m.gl }
def scan:Nat->Md->Ln->Mk->Option Mk
 |0,_,_,_=>none
 |_+1,.out,[],m=>some m
 |n+1,.out,c::l,m =>
  if c=120 then scan n .out l m
  else if c=10 then scan n .out l m.line
  else if c=40 then scan n .out l { m with level:=m.level+1 }
  else if c=41 then scan n .out l { m with level:=m.level-1 }
  else if c=34\/c=39 then(if(c::l).take 3=[c,c,c]then scan n (.txt c 2 m.lno) (l.drop 2) m else scan n (.txt c 0 m.lno) l m)
  else if c=35 then(if 10∈l then scan n .out (l.dropWhile (·≠10)) m else none)
  else if c=92 then(match l with
   | []=>none
   |d::l=>scan n .out l (if d=10 then{ m with lno:=m.lno+1,cont:=if l=[]then 1 else m.cont }else m))
  else none
 |n+1,.txt _ _ first,[],m=>scan n .out [] { m with cont:=if m.lno=first+1 then 2 else 3 }
 |n+1,.txt q w first,c::l,m =>
  if c=120 then scan n (.txt q w first) l m
  else if(c::l).take (w+1)=quoteOf q w then scan n .out (l.drop w) m
  else if c=10 then(if w=0 then scan n .out l m.line else scan n (.txt q w first) l { m with lno:=m.lno+1 })
  else if c=92 then(match l with
   | []=>none
   |d::l=>scan n (.txt q w first) l (if d=10 then{ m with lno:=m.lno+1 }else m))
  else scan n (.txt q w first) l m
noncomputable def ends(m:Mk):Option (Ln×Nat):=
 let c:=if m.cont≠2/\m.cont≠3/\0<m.level then 4 else m.cont
 if decide (c=0)=decide (m.gl.getLast?=some m.lno)then some (if m.gl.getLast?=some m.lno then m.gl else m.gl++[m.lno],c)else none
def study(l:Ln):Option (Ln×Nat):=(scan 1000 .out l ⟨0,0,[0],0⟩).bind ends
end Mine.Lake.Rp
namespace Mine.Lake.Rp
open PySem StrLaws PySem.Builtin PySem.Builtin.Str
noncomputable def spl:Ln->Ln×List (Ln)
 | []=>([],[])
 |c::l=>if c=10 then([],(spl l).1::(spl l).2)else(c::(spl l).1,(spl l).2)
section
variable{x:Str}
theorem qEs:∀(l:Ln)(i a:Nat),x.cps.toList.drop i=l->a<=i->i<=x.length ->
  (partsFrom x 1 a (oc [10] i 0 l)).map (·.cps.toList)=((x.cps.toList.drop a).take (i-a)++(spl l).1)::(spl l).2:=by
 intro N;induction N with
 |nil =>
  intro i a h D hi;have u:x.cps.toList.length=x.length:=h9;have L:x.length<=i:=u▸wH h;show[(strSub x a x.length).cps.toList]=[_++[]]
  rw[jZ,eW hi L,eF]
 |cons c l J =>
  intro i a h D hi;obtain u:x.cps.toList.length=x.length:=h9;have F:i<x.length:=u▸jQ h;have I:x.cps.toList.drop (i+1)=l:=by rw[<- lD,h];rfl
  by_cases hc:c=10
  .subst hc;obtain e1:oc [10] i 0 (10::l)=i::oc [10] (i+1) 0 l:=d3 rfl;have e2:spl (10::l)=([],(spl l).1::(spl l).2):=d3 rfl;rw[e1,e2];show(strSub x a i).cps.toList::(partsFrom x 1 (i+1) _).map _=_;rw[jZ,J (i+1) (i+1) I (i5 _) F,gU,eF];rfl
  .have e1:oc [10] i 0 (c::l)=oc [10] (i+1) 0 l:=b6 λq=>by have:([c]:Ln)=[10]:=q;injection this with this;subst this;exact hc rfl
   have e2:spl (c::l)=(c::(spl l).1,(spl l).2):=b6 hc;rw[e1,e2,J (i+1) a I (m3 D) F];rw[(by
    rw[rL D,List.take_add_one]
    congr 1
    rw[iU,dT D]
    have:(x.cps.toList.drop i)[0]?=some c:=by rw[h];rfl
    rw[iU,oJ]at this
    rw[this];rfl:(x.cps.toList.drop a).take (i+1-a)=(x.cps.toList.drop a).take (i-a)++[c]),u3];rfl
set_option tactic.hygienic true in
theorem qXt:(mV x ⟨#[10]⟩).map (·.cps.toList)=(spl x.cps.toList).1::(spl x.cps.toList).2:=by
 have D:(partsBetween x (oc [10] 0 0 x.cps.toList) 1).map (·.cps.toList)=(spl x.cps.toList).1::(spl x.cps.toList).2:=by rw[(pD ..),(qEs x.cps.toList 0 0 rfl (i5 _) (v0 _) (x:=x))];simp
 have u:oc [10] 0 0 x.cps.toList=[]->([x]:List Str).map (·.cps.toList)=(spl x.cps.toList).1::(spl x.cps.toList).2:=λe=>by
  rw[<- D,e];show[x.cps.toList]=[(strSub x 0 x.length).cps.toList]
  rw[jZ];have:x.cps.toList.length=x.length:=h9;rw[lY,rM,<- this,List.take_length]
 unfold mV;rw[(qNj (x:=x) (y:=[10]) pi)];split
 .rename_i hc;refine u ?_;rw[eS,n8,n8]at hc;rcases hc with hc|hc
  .have:x.cps.toList=[]:=gV (by rw[h9];exact(by
    have:(⟨#[10]⟩:Str).length=1:=rfl
    simp_all:x.length=0))
   rw[this];rfl
  .exfalso;rw[(by decide +kernel:pW ⟨#[10]⟩=1)]at hc;unfold pW at hc;split at hc
   .exact fP 1 hc
   .split at hc <;> lia
 .split
  .rename_i hc;exact u (List.isEmpty_iff.mp hc)
  .exact D
end
end Mine.Lake.Rp
namespace Mine.Lake.Rp
open PySem
inductive Sq:Ln->Ln->Prop
 |nil:Sq [] []
 |cons(c k:Nat){l l':Ln}:(k=0\/c=120\/c=10)->Sq l l'->Sq (c::(replicate k 120++l)) (c::l')
theorem scan_out{l:Ln}:scan (n+1) .out (c::l) m=(if c=120 then scan n .out l m
  else if c=10 then scan n .out l m.line
  else if c=40 then scan n .out l { m with level:=m.level+1 }
  else if c=41 then scan n .out l { m with level:=m.level-1 }
  else if c=34\/c=39 then(if(c::l).take 3=[c,c,c]then scan n (.txt c 2 m.lno) (l.drop 2) m else scan n (.txt c 0 m.lno) l m)
  else if c=35 then(if 10∈l then scan n .out (l.dropWhile (·≠10)) m else none)
  else if c=92 then(match l with
   | []=>none
   |d::l=>scan n .out l (if d=10 then{ m with lno:=m.lno+1,cont:=if l=[]then 1 else m.cont }else m))
  else none):=rfl
theorem scan_txt{l:Ln}:scan (n+1) (.txt q w f) (c::l) m=(if c=120 then scan n (.txt q w f) l m
  else if(c::l).take (w+1)=quoteOf q w then scan n .out (l.drop w) m
  else if c=10 then(if w=0 then scan n .out l m.line else scan n (.txt q w f) l { m with lno:=m.lno+1 })
  else if c=92 then(match l with
   | []=>none
   |d::l=>scan n (.txt q w f) l (if d=10 then{ m with lno:=m.lno+1 }else m))
  else scan n (.txt q w f) l m):=rfl
theorem zL{α:Type}[Decidable p]{a b u D:α}(h1:p->a=u)(h2:¬p->b=D):(if p then a else b)=if p then u else D:=by
 split
 .exact h1 ‹_›
 .exact h2 ‹_›
theorem qOg{l:Ln}:(l.dropWhile (·≠10)).length<=l.length:=by
 induction l with
 |nil=>exact i5 _
 |cons c l u =>
  rw[v1];split
  .exact m3 u
  .exact i5 _
theorem yN{l:Ln}:(l.drop k).length<=l.length:=by rw[t3];exact gH _ _
theorem qTm:∀(n:Nat)(md:Md)(l:Ln)(m:Mk),l.length+2<=n->scan (n+1) md l m=scan n md l m:=by
  intro F;induction F with
  |zero=>exactλz z z h=>d9 h (bY _)
  |succ n D =>
   exact fun
   | .out,[],m,h=>rfl
   | .txt q w f,[],m,h=>by
    cases n with
    |zero=>exact d9 (r7 h) (bY _)
    |succ n=>rfl
   | .out,c::l,m,h=>by
    have u:∀md {l':Ln} m,l'.length<=l.length->scan (n+1) md l' m=scan n md l' m:=λmd l' m q=>D md l' m (b7 (m5 q 2) (r7 h));refine zL (λz=>u _ _ (i5 _)) λz=>zL (λz=>u _ _ (i5 _)) λz=>zL (λz=>u _ _ (i5 _)) λz=>zL (λz=>u _ _ (i5 _)) λz=>zL (λz=>zL (λz=>u _ _ yN) λz=>u _ _ (i5 _)) λz=>zL (λz=>zL (λz=>u _ _ qOg) λz=>rfl) λz=>zL (λz=>?_) λz=>rfl;cases l with
    |nil=>rfl
    |cons d l=>exact u _ _ (eM _)
   | .txt q w f,c::l,m,h=>by
    have u:∀md {l':Ln} m,l'.length<=l.length->scan (n+1) md l' m=scan n md l' m:=λmd l' m q=>D md l' m (b7 (m5 q 2) (r7 h));refine zL (λz=>u _ _ (i5 _)) λz=>zL (λz=>u _ _ yN) λz=>zL (λz=>zL (λz=>u _ _ (i5 _)) λz=>u _ _ (i5 _)) λz=>zL (λz=>?_) λz=>u _ _ (i5 _);cases l with
    |nil=>rfl
    |cons d l=>exact u _ _ (eM _)
theorem qEy(h:l.length+2<=n):∀k,scan (n+k) md l m=scan n md l m:=by
 intro D;induction D with
 |zero=>exact  rfl
 |succ k u=>exact  (qTm (n+k) md l m (b7 h (n5 n k))).trans (u)
theorem zFp(u:l.length+2<=a)(D:l.length+2<=b):scan a md l m=scan b md l m:=by obtain h1:=qEy (md:=md) (m:=m) (i5 (l.length+2)) (a-(l.length+2));obtain h2:=qEy (md:=md) (m:=m) (i5 (l.length+2)) (b-(l.length+2));rw[dT u]at h1;rw[dT D]at h2;exact h1.trans h2.symm
def march(md:Md)(l:Ln)(m:Mk):Option Mk:=scan (l.length+2) md l m
theorem uH(h:l.length+2<=n):scan n md l m=march md l m:=zFp h (i5 _)
theorem mout{l:Ln}:march .out (c::l) m=(if c=120 then march .out l m
  else if c=10 then march .out l m.line
  else if c=40 then march .out l { m with level:=m.level+1 }
  else if c=41 then march .out l { m with level:=m.level-1 }
  else if c=34\/c=39 then(if(c::l).take 3=[c,c,c]then march (.txt c 2 m.lno) (l.drop 2) m else march (.txt c 0 m.lno) l m)
  else if c=35 then(if 10∈l then march .out (l.dropWhile (·≠10)) m else none)
  else if c=92 then(match l with
   | []=>none
   |d::l=>march .out l (if d=10 then{ m with lno:=m.lno+1,cont:=if l=[]then 1 else m.cont }else m))
  else none):=by
 obtain ih:∀md {l':Ln} m,l'.length<=l.length->scan (l.length+2) md l' m=march md l' m:=λmd l' m q=>uH (m5 q 2);refine scan_out.trans (zL (λz=>ih _ _ (i5 _)) λz=>zL (λz=>ih _ _ (i5 _)) λz=>zL (λz=>ih _ _ (i5 _)) λz=>zL (λz=>ih _ _ (i5 _)) λz=>zL (λz=>zL (λz=>ih _ _ yN) λz=>ih _ _ (i5 _)) λz=>zL (λz=>zL (λz=>ih _ _ qOg) λz=>rfl) λz=>zL (λz=>?_) λz=>rfl);cases l with
 |nil=>rfl
 |cons d l=>exact ih _ _ (eM _)
theorem mtxt{l:Ln}:march (.txt q w f) (c::l) m=(if c=120 then march (.txt q w f) l m
  else if(c::l).take (w+1)=quoteOf q w then march .out (l.drop w) m
  else if c=10 then(if w=0 then march .out l m.line else march (.txt q w f) l { m with lno:=m.lno+1 })
  else if c=92 then(match l with
   | []=>none
   |d::l=>march (.txt q w f) l (if d=10 then{ m with lno:=m.lno+1 }else m))
  else march (.txt q w f) l m):=by
 obtain ih:∀md {l':Ln} m,l'.length<=l.length->scan (l.length+2) md l' m=march md l' m:=λmd l' m q=>uH (m5 q 2);refine scan_txt.trans (zL (λz=>ih _ _ (i5 _)) λz=>zL (λz=>ih _ _ yN) λz=>zL (λz=>zL (λz=>ih _ _ (i5 _)) λz=>ih _ _ (i5 _)) λz=>zL (λz=>?_) λz=>ih _ _ (i5 _));cases l with
 |nil=>rfl
 |cons d l=>exact ih _ _ (eM _)
theorem mxs:∀k,march md (replicate k 120++l) m=march md l m:=by
 intro D;induction D with
 |zero=>exact  rfl
 |succ k u =>
  rw[gS,cons_append];cases md with
  |out=>rw[mout,d3 rfl];exact u
  |txt q w f=>rw[mtxt,d3 rfl];exact u
theorem Sq.mem(h:Sq l l'):10∈l ↔ 10∈l':=by
 induction h with
 |nil=>exact Iff.rfl
 |cons c k _ _ u =>rw[pN,pN,pE,u];exact⟨λq=>q.imp id λq=>q.elim (λw=>d9 (iX w) pi) id,λq=>q.imp id .inr⟩
theorem Sq.dw(h:Sq l l'):Sq (l.dropWhile (·≠10)) (l'.dropWhile (·≠10)):=by
 induction h with
 |nil=>exact .nil
 |cons c k hk h D =>
  simp only[v1,v1];split
  .refine Eq.mp (g0 (Sq · _) ?_) D;induction k with
   |zero=>rfl
   |succ k u=>rw[gS,cons_append,v1,d3 pi];exact u (hk.elim (λq=>nomatch q) .inr)
  .exact .cons c k hk h
theorem Sq.quote(u:q≠120/\q≠10):∀(j:Nat){l l':Ln},Sq l l'->(l.take j=replicate j q ↔ l'.take j=replicate j q)/\(l.take j=replicate j q->Sq (l.drop j) (l'.drop j)):=by
  intro F;induction F with
  |zero=>exact@λz z h=>⟨Iff.rfl,λz=>h⟩
  |succ j D =>
   exact@fun
   |_,_,.nil=>⟨Iff.rfl,λz=>.nil⟩
   |_,_,.cons c k hk h=>by
    simp only[eR,eR,gS,List.drop_succ_cons,List.drop_succ_cons];by_cases hc:c=q
    · obtain k0:k=0:=hk.elim id λw=>d9 (w.imp (λw=>hc▸w) λw=>hc▸w:q=120\/q=10) λw=>w.elim u.1 u.2
      subst k0 hc;obtain⟨h1,h2⟩:=D h;exact⟨⟨λe=>by rw[<- t9 e |>.2,h1.mp (t9 e).2];exact g0 _ (t9 e).2.symm,λe=>g0 (c::·) (h1.mpr (t9 e).2)⟩,λe=>h2 (t9 e).2⟩
    · exact⟨⟨λe=>d9 (t9 e).1 hc,λe=>d9 (t9 e).1 hc⟩,λe=>d9 (t9 e).1 hc⟩
def NX(l:Ln):Prop:=∀u,l≠u++[120]
theorem NX.suf{v:Ln}(h:NX l)(q:v <:+ l):NX v:=by obtain⟨t,rfl⟩:=q;exactλu e=>h (t++u) (by rw[e,u3])
theorem NX.tail{l:Ln}(h:NX (c::l)):NX l:=h.suf (n6 _ _)
theorem NX.skip(h:NX (replicate k 120++l)):NX l:=h.suf (List.suffix_append _ _)
set_option tactic.hygienic true in
theorem zAn:∀(n:Nat){l l':Ln}(md:Md)(m:Mk),l.length<=n->(match md with| .txt q _ _=>q≠120/\q≠10| .out=>True)->NX l->Sq l l'->march md l m=march md l' m:=by
  intro V;induction V with
  |zero =>
    intro _ _ md m h _ _ hs;cases hs with
    |nil=>rfl
    |cons=>exact d9 h (bY _)
  |succ n I =>
   exact@fun
   |_,_,.out,m,h,hq,hx,hs0=>by
    cases hs0 with
    |nil=>rfl
    |cons c k hk hs =>
    rename_i l l';obtain N:(replicate k 120++l).length<=n:=r7 h;have D:=hx.tail;have J:l.length<=n:=b7 (by rw[g8];exact t4 _ _) N;have F:∀m,march .out (replicate k 120++l) m=march .out l' m:=λm=>(mxs k).trans (I .out m J trivial D.skip hs);rw[mout,mout];refine zL (λy=>F _) λn1=>zL (λy=>F _) λO=>?_;have T:k=0:=hk.elim id λw=>d9 w λw=>w.elim n1 O;subst T;have F:∀md m,(match md with| .txt q _ _=>q≠120/\q≠10| .out=>True)->march md l m=march md l' m:=λmd m q=>I md m J q D.skip hs;refine zL (λy=>F _ _ trivial) λy=>zL (λy=>F _ _ trivial) λy=>zL (λw=>?_) λy=>zL (λy=>?_) λy=>zL (λy=>?_) λy=>rfl
    · have hc:c≠120/\c≠10:=⟨n1,O⟩
      refine bo (Sq.quote hc 2 hs) λh1 h2=>?_;have e1:(c::(replicate 0 120++l)).take 3=[c,c,c] ↔ (c::l').take 3=[c,c,c]:=⟨λe=>g0 (c::·) (h1.mp (t9 e).2),λe=>g0 (c::·) (h1.mpr (t9 e).2)⟩
      by_cases e:(c::l').take 3=[c,c,c]
      · rw[d3 e,d3 (e1.mpr e)]
        exact I _ _ (b7 yN J) hc (D.suf (bD 2 l)) (h2 ((t9 (e1.mpr e)).2))
      · rw[b6 e,b6 λq=>e (e1.mp q)]
        exact F _ _ hc
    · obtain e1:10∈(replicate 0 120++l) ↔ 10∈l':=hs.mem
      by_cases e:10∈l'
      · rw[d3 e,d3 (e1.mpr e)]
        exact I _ _ (b7 qOg J) trivial (D.suf (eK _)) hs.dw
      · rw[b6 e,b6 λq=>e (e1.mp q)]
    · clear F
      cases hs with
      |nil=>rfl
      | @cons d j u L U hs =>
        show march .out (replicate j 120++u) _=march .out L _;rw[mxs];have S:NX (replicate j 120++u):=NX.tail (c:=d) D;have e:(replicate j 120++u=[]) ↔ (L=[]):=by
          cases hs with
          |nil =>
            cases j with
            |zero=>exact⟨λy=>rfl,λy=>rfl⟩
            |succ j =>exact d9 (by rw[eF,List.replicate_succ']) (S (replicate j 120))
          |cons a b _ _=>exact Iff.intro (λq=>nomatch (List.append_eq_nil_iff.mp q).2) (λq=>nomatch q)
        rw[(by
          by_cases q:L=[]
          · rw[d3 q,d3 (e.mpr q)]
          · rw[b6 q,b6 λw=>q (e.mp w)]:(if(replicate j 120++u=[])then 1 else m.cont)=if L=[]then 1 else m.cont)]
        exact I .out _ (b7 (by rw[g8,g5,g8];exact fm) N) trivial S.skip hs
   |_,_,.txt q w f,m,h,hq,hx,hs0=>by
    cases hs0 with
    |nil=>rfl
    |cons c k hk hs =>
    rename_i l l';have N:(replicate k 120++l).length<=n:=r7 h;have D:=hx.tail;have F:∀md m,(match md with| .txt q _ _=>q≠120/\q≠10| .out=>True)->march md (replicate k 120++l) m=march md l' m:=λmd m q=>(mxs k).trans (I md m (b7 (by rw[g8];exact t4 _ _) N) q D.skip hs);rw[mtxt,mtxt];refine zL (λy=>F _ _ hq) λn1=>bo (Sq.quote (q:=q) hq (w+1) (l:=c::(replicate k 120++l)) (l':=c::l') (.cons c k hk hs)) λh1 h2=>?_;by_cases e:(c::l').take (w+1)=quoteOf q w
    · rw[d3 e,d3 (show(c::(replicate k 120++l)).take (w+1)=quoteOf q w from h1.mpr e)]
      exact I .out m (b7 yN N) trivial (D.suf (bD _ _)) (h2 (h1.mpr e))
    rw[b6 e,b6 (show¬(c::(replicate k 120++l)).take (w+1)=quoteOf q w fromλz=>e (h1.mp z))];refine zL (λy=>zL (λy=>F _ _ trivial) λy=>F _ _ hq) λO=>zL (λy=>?_) λy=>F _ _ hq;have T:k=0:=hk.elim id λw=>d9 w λw=>w.elim n1 O;subst T;clear F;cases hs with
    |nil=>rfl
    | @cons d j u L U hs =>show march (.txt q w f) (replicate j 120++u) _=march (.txt q w f) L _;rw[mxs];exact I _ _ (b7 (by rw[g8,g5,g8];exact fm) N) hq (NX.tail (c:=d) D).skip hs
theorem zGe:∀(k:Nat)(l:Ln),rp y z k l=rp y z 0 (l.drop k):=by
  intro D;induction D with
  |zero=>exactλq=>rfl
  |succ k u =>
   exact fun
   | []=>by rw[pX];rfl
   |c::l=>u l
theorem zOy{y:Ln}(hc:c=120\/c=10)(D:y=c::replicate k 120):∀(n:Nat){l:Ln},l.length<=n->Sq l (rp y [c] 0 l):=by
  intro F;induction F with
  |zero =>
   exact@fun
   | [],_=>.nil
   |_::_,h=>d9 h (bY _)
  |succ n u =>
   exact@fun
   | [],_=>.nil
   |a::l,h=>by
    by_cases e:(a::l).take y.length=y
    · rw[(by
        show(if(a::l).take y.length=y then[c]++rp y [c] (y.length-1) l else _)=_
        rw[d3 e,zGe,D,g5,gC];rfl:rp y [c] 0 (a::l)=c::rp y [c] 0 (l.drop k))]
      rw[D,g5,gC,eR]at e;obtain rfl:=(t9 e).1;have:=Sq.cons a k (.inr hc) (u (l:=l.drop k) (b7 yN (r7 h)));rwa[<- (by rw[<- (t9 e).2,gD]:l=replicate k 120++l.drop k)]at this
    · obtain e1:rp y [c] 0 (a::l)=a::rp y [c] 0 l:=b6 e
      rw[e1];exact .cons a 0 (.inl rfl) (u (r7 h))
theorem isLine.nx(h:isLine l):NX l:=by obtain⟨q,rfl⟩:=h;exactλu e=>by have:=(List.append_inj' e rfl).2;cases this
theorem qXm(h:isLine l)(D:l.length<=998):study (lastp (four l))=(march .out l ⟨0,0,[0],0⟩).bind ends/\scan 1000 .out (lastp (four l)) ⟨0,0,[0],0⟩=march .out l ⟨0,0,[0],0⟩:=by
 obtain key:∀{y:Ln}{c k:Nat}{p:Ln},(c=120\/c=10)->y=c::replicate k 120->isLine p->march .out p ⟨0,0,[0],0⟩=march .out (rp y [c] 0 p) ⟨0,0,[0],0⟩:=λhc u hp=>zAn _ .out _ (i5 _) trivial hp.nx (zOy hc u _ (i5 _));obtain ln:∀{y:Ln}{p:Ln},10∉y->y≠[]->isLine p->isLine (rp y [120] 0 p):=λu F hp=>by obtain⟨q,rfl⟩:=hp;exact uC u F (v0 _)
 have p1:=ln (y:=[120,120,120,120,120,120,120,120]) pi pi h;have p2:=ln (y:=[120,120,120,120]) pi pi p1;have p3:=ln (y:=[120,120]) pi pi p2;obtain p4:=ln (y:=[120,120]) pi pi p3;obtain e1:=key (y:=[120,120,120,120,120,120,120,120]) (k:=7) (.inl rfl) rfl h;obtain e:=(((e1.trans (key (y:=[120,120,120,120]) (k:=3) (.inl rfl) rfl p1)).trans (key (y:=[120,120]) (k:=1) (.inl rfl) rfl p2)).trans (key (y:=[120,120]) (k:=1) (.inl rfl) rfl p3)).trans (key (y:=[10,120]) (k:=1) (.inr rfl) rfl p4);obtain e':scan 1000 .out (lastp (four l)) ⟨0,0,[0],0⟩=march .out l ⟨0,0,[0],0⟩:=(uH (m5 (by
  obtain r1:∀{y:Ln}{c:Nat}(p:Ln),(rp y [c] 0 p).length<=p.length:=λp=>vH (i5 _) p 0
  exact b7 (r1 _) (b7 (r1 _) (b7 (r1 _) (b7 (r1 _) (b7 (r1 _) D))))) 2)).trans e.symm
 exact⟨by unfold study;rw[e'],e'⟩
end Mine.Lake.Rp
namespace Mine.Lake
open PySem PySem.W PyProof.Rows
theorem qD{σ:St}{x:Str}{v:V}:(σ.set x v).l.lookup x=some v:=by show(yG x v σ.l).lookup x=_;rw[lookup_setL];exact ax rfl rfl
theorem qA{σ:St}{x y:Str}{v:V}{o:Option V}(u:(y==x)=false)(h:σ.l.lookup y=o):(σ.set x v).l.lookup y=o:=by show(yG x v σ.l).lookup y=_;rw[lookup_setL,b6 (λq=>by rw[q]at u;simp at u),h]
section
variable{σ:St}
theorem zX2(h:σ.l.lookup y=o)(n:(y==x)=false:=by decide):(σ.set x v).l.lookup y=o:=qA n h
theorem qB(h:σ.l.lookup x=some v):ev cx (.v x) σ=.ok v σ:=by rw[zIi,h]
theorem qQ(h:cx.gl x=some v):ev cx (.g x) σ=.ok v σ:=by simp only[zCe,h]
theorem yS(D:ev cx a σ=.ok x σ)(u:ev cx b σ=.ok y σ)(h:qOx σ.h op x y=.ok v):ev cx (.bin op a b) σ=.ok v σ:=by rw[zIp,Rs.bind_ok D,Rs.bind_ok u,h];rfl
theorem qO(u:ev cx a σ=.ok (.int x) σ)(D:ev cx b σ=.ok (.int y) σ):ev cx (.bin .Add a b) σ=.ok (.int (x+y)) σ:=yS u D rfl
theorem kB(u:ev cx a σ=.ok (.int x) σ)(D:ev cx b σ=.ok (.int y) σ):ev cx (.bin .Sub a b) σ=.ok (.int (x-y)) σ:=yS u D rfl
theorem kD(D:ev cx a σ=.ok x σ)(u:ev cx b σ=.ok y σ)(h:uS σ.h op x y=.ok v):ev cx (.cmp op a b) σ=.ok v σ:=by rw[zIo,Rs.bind_ok D,Rs.bind_ok u,h];rfl
theorem xK(u:ev cx a σ=.ok (.int x) σ)(D:ev cx b σ=.ok (.int y) σ):ev cx (.cmp .Eq a b) σ=.ok (.bool (x==y)) σ:=kD u D zSs
theorem qWn(u:ev cx a σ=.ok (.int x) σ)(D:ev cx b σ=.ok (.int y) σ):ev cx (.cmp .NotEq a b) σ=.ok (.bool (x != y)) σ:=kD u D zSq
theorem qBx(u:ev cx a σ=.ok (.int x) σ)(D:ev cx b σ=.ok (.int y) σ):ev cx (.cmp .Lt a b) σ=.ok (.bool (decide (x<y))) σ:=kD u D rfl
theorem qWp(u:ev cx a σ=.ok (.int x) σ)(D:ev cx b σ=.ok (.int y) σ):ev cx (.cmp .Gt a b) σ=.ok (.bool (decide (x>y))) σ:=kD u D rfl
theorem jV(u:ev cx a σ=.ok (.int x) σ)(D:ev cx b σ=.ok (.int y) σ):ev cx (.cmp .GtE a b) σ=.ok (.bool (decide (x≥y))) σ:=kD u D rfl
theorem zOq(u:ev cx a σ=.ok (.bool x) σ)(D:ev cx b σ=.ok (.bool y) σ):ev cx (.cmp .Eq a b) σ=.ok (.bool (x==y)) σ:=kD u D (by cases x <;> cases y <;> rfl)
theorem jW(u:ev cx a σ=.ok (.str x) σ)(D:ev cx b σ=.ok (.str y) σ):ev cx (.cmp .Eq a b) σ=.ok (.bool (x.cps.toList==y.cps.toList)) σ:=kD u D zSr
theorem zJy(u:ev cx a σ=.ok (.str x) σ)(D:ev cx b σ=.ok (.str y) σ):ev cx (.cmp .NotEq a b) σ=.ok (.bool (x.cps.toList != y.cps.toList)) σ:=kD u D zSp
theorem qGl{a b:X}{p q:Bool}(u:ev cx a σ=.ok (.bool p) σ)(D:p=false->ev cx b σ=.ok (.bool q) σ):ev cx (.or a b) σ=.ok (.bool (p||q)) σ:=by
 refine evq_or.trans ((Rs.bind_ok u).trans ?_);clear u;cases p with
 |true=>rfl
 |false=>exact D rfl
theorem vK{a b:X}{p q:Bool}(u:ev cx a σ=.ok (.bool p) σ)(D:p->ev cx b σ=.ok (.bool q) σ):ev cx (.and a b) σ=.ok (.bool (p&&q)) σ:=by
 refine evq_and.trans ((Rs.bind_ok u).trans ?_);clear u;cases p with
 |true=>exact D rfl
 |false=>rfl
theorem kC(u:ev cx a σ=.ok x σ)(hi:ev cx i σ=.ok y σ)(h:idxV σ.h x y=.ok v):ev cx (.idx a i) σ=.ok v σ:=by rw[zIn,Rs.bind_ok u,Rs.bind_ok hi,h];rfl
theorem jU(I:ev cx a σ=.ok x σ)(D:ev cx u σ=.ok l σ)(F:ev cx hi σ=.ok h σ)(hv:yF σ.h x l h=.ok v):ev cx (.slc a u hi) σ=.ok v σ:=by rw[zIk,Rs.bind_ok I,Rs.bind_ok D,Rs.bind_ok F,hv];rfl
theorem qK(u:ev cx o σ=.ok x σ)(h:cx.fld x f σ.h=.ok v):ev cx (.attr o f) σ=.ok v σ:=by rw[zCh,Rs.bind_ok u,h];rfl
theorem qEh:ev cx (.neg (.int i)) σ=.ok (.int (-i)) σ:=rfl
theorem qE(u:ev cx a σ=.ok x σ)(D:ev cx b σ=.ok (.list xs) σ):ev cx (.cons a b) σ=.ok (.list (x::xs)) σ:=by rw[qKm,Rs.bind_ok u,Rs.bind_ok D];rfl
theorem vF(h:ev cx es σ=.ok (.list xs) σ)(u:xs.length<=j0):ev cx (.list es) σ=.ok (.list xs) σ:=by rw[qKl,Rs.bind_ok h];exact d3 u
theorem qAo(h:ev cx es σ=.ok (.list xs) σ)(u:xs.length<=j0):ev cx (.tup es) σ=.ok (.tup xs) σ:=by rw[zIj,Rs.bind_ok h];exact d3 u
theorem zJ(u:ev cx f σ=.ok vf σ)(D:ev cx as σ=.ok (.list xs) σ)(h:cx.app vf xs σ.h=.ok v σ'):ev cx (.call f as) σ=.ok v { σ with h:=σ'.h }:=by rw[zCg,Rs.bind_ok u,Rs.bind_ok D];show(cx.app vf xs σ.h).lift σ=_;rw[h];rfl
theorem qR(u:ev cx o σ=.ok vo σ)(hg:cx.get vo m σ.h=some (vf,first))(D:ev cx as σ=.ok (.list xs) σ)(h:cx.app vf (first++xs) σ.h=.ok v σ'):ev cx (.m o m as) σ=.ok v { σ with h:=σ'.h }:=by rw[zCd,Rs.bind_ok u,hg];show(ev cx as σ).bind _=_;rw[Rs.bind_ok D];show(cx.app vf (first++xs) σ.h).lift σ=_;rw[h];rfl
end
def qDw(b:S)(cx:Sx)(Q:Fl->St->Prop)(f:Fl)(a0:St):Prop:=match f with| .next=>Gd (ex b cx a0) Q|f=>Q f a0
theorem zA(h:Gd (ex a cx σ) (qDw b cx Q)):Gd (ex (.seq a b) cx σ) Q:=qG (h.mono λf z q=>by cases f <;> exact q)
theorem yC(u:ev cx.c e σ=.ok (.bool t) a0)(h1:t->Gd (ex a cx a0) (qDw c cx Q))(h2:t=false->Gd (ex b cx a0) (qDw c cx Q)):Gd (ex (.seq (.ite e a b) c) cx σ) Q :=
 zA (jP u (by cases t <;> rfl) h1 h2)
theorem qN(u:ev cx.c e σ=.ok (.bool t) σ)(h1:t->Gd (ex a cx σ) (qDw c cx Q))(h2:t=false->Gd (ex c cx σ) Q):Gd (ex (.seq (.ite e a .nil) c) cx σ) Q :=
 yC u h1 λq=>qF (h2 q)
theorem zR(h:Q .cont σ):Gd (ex (.seq .cont .nil) cx σ) Q:=qG (uO h)
theorem gd_sasg(u:ev cx.c e σ=.ok v a0)(h:Gd (ex c cx (a0.set x v)) Q):Gd (ex (.seq (.a x e) c) cx σ) Q:=qG (zNk u h)
theorem zC(u:ev cx.c e σ=.ok v a0)(h:Gd (ex c cx a0) Q):Gd (ex (.seq (.expr e) c) cx σ) Q:=qG (zIa u h)
theorem qT(u:ev cx.c e σ=.ok (.bool true) σ)(h:Gd (ex c cx σ) Q):Gd (ex (.seq (.assert e) c) cx σ) Q:=qG (qFq u rfl h)
section
variable{x:Str}{p c:Nat}{l:Ln}{H:Hp}
theorem vC(h:x.cps.toList.drop p=c::l):p<x.length:=by obtain h2:=g0 List.length h;simp only[t3,h9,g5]at h2;have:x.length=x.cps.size:=rfl;exact this▸gZ h2
theorem xN(h:x.cps.toList.drop p=c::l):x.cps.toList.drop (p+1)=l:=by rw[<- lD,h];rfl
theorem qBu(h:x.cps.toList.drop p=c::l):x.cps[p]?=some c:=by
 have:(x.cps.toList.drop p)[0]?=some c:=by rw[h];rfl
 rw[iU,oJ,aV]at this;exact this
theorem vV(hp:p<=x.length)(h:x.cps.toList.drop p=l):l.length+p=x.length:=by simp only[<- h,t3,h9];have:x.length=x.cps.size:=rfl;simp_all
theorem qKq(hp:p<=x.length)(h:x.cps.toList.drop p=[]):p=x.length:=by have:=vV hp h;simp_all
theorem kS(h1 :-1000<=i)(h2:i<=1000):kT i:=by unfold kT;simp only[i6];exact⟨e9 (iK pi h1),e9 (lA h2 pi)⟩
theorem jH{i n:Nat}(h:i<n):seqIndex? (i:Int) n=some i:=by unfold seqIndex?;rw[(b6 (by simp):(if(i:Int)<0 then(i:Int)+n else i)=i)];exact(d3 (by rw[i6];exact⟨e9 (by simp),e9 (by simp[h])⟩)).trans (g0 some (dH i))
theorem qNx(hs:x.length<=1000)(h:x.cps.toList.drop p=c::l):idxV H (.str x) (.int (p:Nat))=.ok (.str ⟨#[c]⟩):=
 qHp (kS (by simp) (by have:=vC h;exact gx hs this)) (jH (vC h)) (qBu h)
theorem zCt(a b:Nat):((min a b:Nat):Int)=min (a:Int) b:=by
 rcases rG a b with h|h
 .rw[bQ h,Int.min_eq_left (Int.ofNat_le.mpr h)]
 .rw[dX h,Int.min_eq_right (Int.ofNat_le.mpr h)]
theorem uT(n i:Nat):clipAt n (i:Int)=min i n:=by unfold clipAt;rw[b6 (Int.not_lt.mpr (u0 i)),<- zCt,oP (u0 _),dH]
theorem qKu(xs:List α)(hp:p<=xs.length):cut xs (some (p:Int)) (some ((p+t:Nat):Int))=(xs.drop p).take t:=by
 show(xs.drop (clipAt xs.length (p:Int))).take (clipAt xs.length ((p+t:Nat):Int)-clipAt xs.length (p:Int))=_;rw[uT,uT,bQ hp];by_cases h:p+t<=xs.length
 .rw[bQ h,w7]
 .rw[dX (gG h),eI (by rw[t3];exact i5 _),eI (by rw[t3];exact gk h)]
theorem zLs(hp:p<=x.length):yF H (.str x) (.int (p:Nat)) (.int ((p+t:Nat):Int))=.ok (.str ⟨((x.cps.toList.drop p).take t).toArray⟩):=by show Ov.ok (.str ⟨(cut x.cps.toList (some ((p:Nat):Int)) (some ((p+t:Nat):Int))).toArray⟩)=_;rw[qKu _ (by rw[h9];exact hp)]
open StrLaws PySem.Builtin PySem.Builtin.Str in
theorem at_nl:At x ⟨#[10]⟩ x.length i ↔ x.cps[i]?=some 10:=by
 unfold At;rw[subAt_eq];constructor
 .rintro⟨h1,h2⟩;obtain h2':(x.cps.toList.drop i).take 1=[10]:=eU h2;cases hd:x.cps.toList.drop i with
  |nil=>rw[hd]at h2';cases h2'
  |cons a l=>rw[hd]at h2';injection h2' with h2';subst h2';exact qBu hd
 .intro h;refine⟨((Array.getElem?_eq_some_iff.mp h).1),?_⟩;rw[(by
   obtain⟨hi,e⟩:=List.getElem?_eq_some_iff.mp (by rw[aV];exact h)
   rw[dM hi,e]:x.cps.toList.drop i=10::x.cps.toList.drop (i+1))];rfl
theorem qKi(n i:Nat):fromIndex n (i:Int)=i:=by unfold fromIndex;rw[b6 (Int.not_lt.mpr (u0 i)),oP (u0 _),dH]
open StrLaws PySem.Builtin PySem.Builtin.Str in
theorem zIf(hp:p<=x.length)(h:x.cps.toList.drop p=l)(hm:10∈l):∃q,dF x ⟨#[10]⟩ (p:Nat)=(q:Nat)/\q<x.length/\x.cps.toList.drop q=l.dropWhile (·≠10):=by
 obtain hx:x.length=x.cps.size:=rfl;obtain key:∀(l:Ln)(p:Nat),x.cps.toList.drop p=l->10∈l->∃q,p<=q/\x.cps[q]?=some 10/\x.cps.toList.drop q=l.dropWhile (·≠10)/\∀j,p<=j->j<q->x.cps[j]?≠some 10:=by
  intro l;induction l with
  |nil=>intro p _ hm;cases hm
  |cons a l O =>
   intro p h hm;by_cases u:a=10
   .subst u;refine⟨p,i5 _,qBu h,?_,λj h1 h2=>by lia⟩;rw[h];rfl
   .obtain⟨q,h1,h2,h3,h4⟩:=O (p+1) (xN h) (by
     rcases List.mem_cons.mp hm with e|e
     .exact d9 e.symm u
     .exact e)
    refine⟨q,m9 h1,h2,?_,λj L N=>?_⟩
    .rw[h3];rw[List.dropWhile_cons_of_pos (by simpa using u)]
    .by_cases I:j=p
     .subst I;rw[qBu h];exactλe=>u (b5 e)
     .exact h4 j (fB L (fR I)) N
 refine ck (key l p h hm) λq h1 h2 h3 h4=>?_;have F:q<x.length:=(Array.getElem?_eq_some_iff.mp h2).1;refine⟨q,?_,F,h3⟩;unfold dF;rw[qKi,occ_eq];rcases occ_first x ⟨#[10]⟩ x.length 1 (i5 _) (fN p (x.length+1-p)) p (λi hi=>(List.mem_range'_1.mp hi).1)with⟨_,D⟩|⟨pre,a,S,e,J,u,D⟩
 .exact d9 (at_nl.mpr h2) (D q (List.mem_range'_1.mpr ⟨h1,gm F⟩))
 .obtain haq:a=q:=by
   rcases Nat.lt_trichotomy a q with c|c|c
   .exact d9 (at_nl.mp u) (h4 a ((List.mem_range'_1.mp (by rw[e];exact iM _ (.head _))).1) c)
   .exact c
   .exfalso;refine D q ?_ (at_nl.mpr h2);rcases List.mem_append.mp (by rw[<- e];exact List.mem_range'_1.mpr ⟨h1,er F⟩)with m|m
    .exact m
    .rcases List.mem_cons.mp m with m|m
     .lia
     .have:=(List.pairwise_append.mp (by rw[<- e];exact lI ..)).2.1;have:=(List.pairwise_cons.mp this).1 q m;lia
  subst haq;generalize(forIn (fN p (x.length+1-p)) ((#[]:Array Nat),p) (occBody x ⟨#[10]⟩ x.length 1)).run.fst=arr at J;have h5:arr.toList[0]?=some a:=by rw[aV];exact J
  cases hL:arr.toList with
  |nil=>rw[hL]at h5;cases h5
  |cons b t=>rw[hL]at h5;subst h5;rfl
end
end Mine.Lake
namespace Mine.Lake.L09
open PySem PySem.W PyProof.Rows Mine.Lake Mine.Lake.Rp
structure Bx(G:Prg)(cx:Sx):Prop where
 gl:cx.gl=G.gl
 bl:∀i args H,cx.app (.top (.builtin i)) args H=bapp i args H
 bd:∀k x H,cx.app (.bnd k) [x] H=zT (.ref k) x H
 get:cx.get=getV G
 fld:cx.fld=yM G
 setA:cx.setA=zLt G
 tr:cx.tr=trV G
theorem qDs:∀n,Bx G (tower G rows fI n)
 |0=>⟨rfl,λq q q=>rfl,λq q q=>rfl,rfl,rfl,rfl,rfl⟩
 |1=>⟨rfl,λq q q=>rfl,λq q q=>rfl,rfl,rfl,rfl,rfl⟩
 |_+2=>⟨rfl,λq q q=>rfl,λq q q=>rfl,rfl,rfl,rfl,rfl⟩
noncomputable def hput(H:Hp)(k:Nat)(o:O):Hp:={ H with o:=λj=>if j=k then some o else H.o j }
noncomputable def natsV(l:Ln):List V:=l.map λn=>.int (n:Nat)
theorem vA:(hput H k o).o k=some o:=d3 rfl
theorem qX(h:j≠k):(hput H k o).o j=H.o j:=b6 h
theorem qKe:hput (hput H k a) k b=hput H k b:=by refine g0 (λo=>Hp.mk o H.n) (funext λj=>?_);show(if j=k then some b else if j=k then some a else H.o j)=if j=k then some b else H.o j;split <;> rfl
structure B1(x:Str)(k j:Nat)(H:Hp)(p:Nat)(m:Mk)(σ:St):Prop where
 self:σ.l.lookup ("self":Str)=some (.ref k)
 code:σ.l.lookup ("code":Str)=some (.str x)
 cont:σ.l.lookup ("continuation":Str)=some (.int (m.cont:Nat))
 lev:σ.l.lookup ("level":Str)=some (.int (m.level:Nat))
 lno:σ.l.lookup ("lno":Str)=some (.int (m.lno:Nat))
 good:σ.l.lookup ("goodlines":Str)=some (.ref j)
 push:σ.l.lookup ("push_good":Str)=some (.bnd j)
 i:σ.l.lookup ("i":Str)=some (.int (p:Nat))
 n:σ.l.lookup ("n":Str)=some (.int (x.length:Nat))
 hp:σ.h=hput H j (.list (natsV m.gl))
structure Qs(q w first:Nat)(l:List (Str×V)):Prop where
 quote:l.lookup ("quote":Str)=some (.str ⟨(quoteOf q w).toArray⟩)
 w:l.lookup ("w":Str)=some (.int (w:Nat))
 first:l.lookup ("firstlno":Str)=some (.int (first:Nat))
noncomputable def qNn:List Str:=["self","code","continuation","level","lno","goodlines","push_good","i","n"]
noncomputable def zAi:List Str:=["ch","quote","firstlno","w"]
noncomputable def zMw:List Str:=["quote","firstlno","w"]
theorem zJo:∀y∈zAi,∀z∈qNn,(z==y)=false:=pw
theorem zJn:∀y∈("ch":Str)::qNn,∀z∈zMw,(z==y)=false:=pw
section
variable{q w first:Nat}{σ:St}
theorem B1.oth(h:B1 x k j H p m σ)(u:y∈zAi):B1 x k j H p m (σ.set y v):=by obtain a:=zJo y u;exact⟨qA (a _ pi) h.self,qA (a _ pi) h.code,qA (a _ pi) h.cont,qA (a _ pi) h.lev,qA (a _ pi) h.lno,qA (a _ pi) h.good,qA (a _ pi) h.push,qA (a _ pi) h.i,qA (a _ pi) h.n,h.hp⟩
theorem B1.seti(h:B1 x k j H p m σ){i:Int}(hi:i=(q:Nat)):B1 x k j H q m (σ.set "i" (.int i)):=by subst hi;exact⟨zX2 h.self,zX2 h.code,zX2 h.cont,zX2 h.lev,zX2 h.lno,zX2 h.good,zX2 h.push,qD,zX2 h.n,h.hp⟩
theorem B1.setcont(h:B1 x k j H p m σ){i:Int}(hi:i=(q:Nat)):B1 x k j H p { m with cont:=q } (σ.set "continuation" (.int i)):=by subst hi;exact⟨zX2 h.self,zX2 h.code,qD,zX2 h.lev,zX2 h.lno,zX2 h.good,zX2 h.push,zX2 h.i,zX2 h.n,h.hp⟩
theorem B1.setlev(h:B1 x k j H p m σ){i:Int}(hi:i=(q:Nat)):B1 x k j H p { m with level:=q } (σ.set "level" (.int i)):=by subst hi;exact⟨zX2 h.self,zX2 h.code,zX2 h.cont,qD,zX2 h.lno,zX2 h.good,zX2 h.push,zX2 h.i,zX2 h.n,h.hp⟩
theorem B1.setlno(h:B1 x k j H p m σ){i:Int}(hi:i=(q:Nat)):B1 x k j H p { m with lno:=q } (σ.set "lno" (.int i)):=by subst hi;exact⟨zX2 h.self,zX2 h.code,zX2 h.cont,zX2 h.lev,qD,zX2 h.good,zX2 h.push,zX2 h.i,zX2 h.n,h.hp⟩
theorem B1.setgl(h:B1 x k j H p m σ):B1 x k j H p { m with gl:=gl } { σ with h:=hput H j (.list (natsV gl)) }:=
 ⟨h.self,h.code,h.cont,h.lev,h.lno,h.good,h.push,h.i,h.n,rfl⟩
theorem Qs.oth(h:Qs q w first σ.l)(u:y∈("ch":Str)::qNn):Qs q w first (σ.set y v).l:=by obtain a:=zJn y u;exact⟨qA (a _ pi) h.quote,qA (a _ pi) h.w,qA (a _ pi) h.first⟩
end
theorem wL:bapp "len" [a] H=qJs a H:=rfl
theorem qGe:bapp "str.find" [a,b,d] H=qKj a b d H:=rfl
theorem zEd{cx:Cx}(u:z=⟨#[d]⟩)(h:σ.l.lookup ("ch":Str)=some (.str ⟨#[c]⟩)):ev cx (.cmp .Eq "ch" (.str z)) σ=.ok (.bool (decide (c=d))) σ:=by
 rw[jW (qB h) rfl,u];congr 2;by_cases e:c=d
 .subst e;simp
 .rw[k9 e];simpa using e
theorem qAt(u:z=⟨#[d]⟩)(h:σ.l.lookup ("ch":Str)=some (.str ⟨#[c]⟩))(h1:c=d->Gd (ex a cx σ) (qDw r cx Q))(h2:c≠d->Gd (ex r cx σ) Q):Gd (ex (.seq (.ite (.cmp .Eq "ch" (.str z)) a .nil) r) cx σ) Q :=
 qN (zEd u h) (λq=>h1 (j6 q)) (λq=>h2 (w5 q))
theorem qQn(B:Bx G cx)(h:B1 x k j H p m σ)(u:m.gl.length<=2000)(hk:∀σ',B1 x k j H p { m with gl:=if m.level=0 then m.gl++[m.lno]else m.gl } σ'->σ'.l=σ.l->Gd (ex r cx σ') Q):Gd (ex (.seq (.ite (.cmp .Eq "level" (.int 0)) (.seq (.expr (.call "push_good" (qc "lno"))) .nil) .nil) r) cx σ) Q:=by
 refine qN (xK (qB h.lev) rfl) (λe=>?_) (λe=>?_)
 .rw[d3 (by simpa using e)]at hk;exact zC (a0:={ σ with h:=hput H j (.list (natsV (m.gl++[m.lno]))) }) (v:=.none) (zJ (qB h.push) (qE (qB h.lno) rfl) (by
   rw[B.bd,h.hp]
   show((asO ((hput H j (.list (natsV m.gl))).o j)).map λxs=>(j,xs)).elim Rs.bad _=_
   rw[vA]
   refine(d3 (by
    unfold natsV;rw[m8]
    have:j0=16777216:=by decide
    exact ed u this)).trans ?_
   show okH .none (hput (hput H j (.list (natsV m.gl))) j (.list (natsV m.gl++[.int (m.lno:Nat)])))=_
   rw[qKe]
   unfold natsV;rw[fD];rfl:cx.app (.bnd j) [.int (m.lno:Nat)] σ.h=okH .none (hput H j (.list (natsV (m.gl++[m.lno])))))) (qF (hk _ h.setgl rfl))
 .rw[b6 (by simpa using e)]at hk;exact hk σ h rfl
theorem qPz{a:Int}(hp:p<=x.length)(u:a=(p:Nat))(D:b=((p+t:Nat):Int)):yF H (.str x) (.int a) (.int b)=.ok (.str ⟨((x.cps.toList.drop p).take t).toArray⟩):=by subst u D;exact zLs hp
inductive Nxt(x:Str)(k j:Nat)(H:Hp)(R:Mk)(n:Nat)(σ:St):Prop where
 |mk(n' p:Nat)(m:Mk)(h1:n'<=n)(h2:p<=x.length)(h3:m.gl.length<=p+1)(h4:B1 x k j H p m σ)(h5:scan n' .out (x.cps.toList.drop p) m=some R)
inductive Inn(x:Str)(k j:Nat)(H:Hp)(R:Mk)(q w first:Nat)(n:Nat)(σ:St):Prop where
 |mk(n' p:Nat)(m:Mk)(h1:n'<=n)(h2:p<=x.length)(h3:m.gl.length<=p+1)(h4:B1 x k j H p m σ)(h5:Qs q w first σ.l)(h6:scan n' (.txt q w first) (x.cps.toList.drop p) m=some R)
section
variable{cx:Sx}{G:Prg}{σ:St}{x:Str}{k j p n c q w first:Nat}{H:Hp}{m R:Mk}{l:Ln}
theorem nlS:("\n":Str)=⟨#[10]⟩:=pw
theorem bsS:("\\":Str)=⟨#[92]⟩:=pw
theorem xS:("x":Str)=⟨#[120]⟩:=pw
theorem qEd(h:(c::l).take (w+1)=quoteOf q w):w<=l.length:=by have:=g0 List.length h;unfold quoteOf at this;simp only[w9,gC,g5]at this;exact gy this
theorem zOn{cx:Cx}(hs:x.length<=1000)(h:B1 x k j H p m σ)(hd:x.cps.toList.drop p=d::l):ev cx (.cmp .Eq (.idx "code" "i") (.str "\n")) σ=.ok (.bool (decide (d=10))) σ:=by
 rw[jW (kC (qB h.code) (qB h.i) (qNx hs hd)) rfl,nlS];congr 2;by_cases e:d=10
 .subst e;rfl
 .rw[k9 e];simpa using e
theorem qGm{cx:Cx}(h:B1 x k j H p m σ):ev cx (.cmp .Lt "i" "n") σ=.ok (.bool (decide (p<x.length))) σ:=by
 rw[qBx (qB h.i) (qB h.n)];congr 2;by_cases e:p<x.length
 .rw[e9 e,e9 (by simp[e])]
 .rw[k9 e,k9 (by simp[e])]
theorem zNd(B:Bx G cx)(hs:x.length<=1000)(h:B1 x k j H p m σ)(D:Qs q w first σ.l)(I:m.gl.length<=p+1)(hd:x.cps.toList.drop p=c::l)(u:scan (n+1) (.txt q w first) (c::l) m=some R):Gd (ex inB cx σ) λf σ'=>match f with| .next=>Inn x k j H R q w first n σ'| .cont=>Inn x k j H R q w first n σ'| .brk=>Nxt x k j H R n σ'| .ret _=>False:=by
 have hp:=vC hd;have F:=xN hd;rw[scan_txt]at u;refine gd_sasg (kC (qB h.code) (qB h.i) (qNx hs hd)) ?_;obtain hch:=@qD σ "ch" (.str ⟨#[c]⟩);obtain h:=h.oth (y:="ch") (v:=.str ⟨#[c]⟩) pi;obtain D:=D.oth (y:="ch") (v:=.str ⟨#[c]⟩) pi;generalize σ.set "ch" (.str ⟨#[c]⟩)=σ at h hch D ⊢;refine gd_sasg (qO (qB h.i) rfl) ?_;obtain hch:=@qA σ "i" "ch" (.int ((p:Int)+1)) _ pi hch;replace h:=h.seti (i:=(p:Int)+1) (q:=p+1) rfl;replace D:=D.oth (y:="i") (v:=.int ((p:Int)+1)) pi;generalize σ.set "i" (.int ((p:Int)+1))=σ at h hch D ⊢;refine qAt xS hch (λe=>?_) λe1=>?_
 .replace u:=(d3 e).symm.trans u;exact zR ⟨n,p+1,m,i5 _,hp,m3 I,h,D,by rw[F];exact u⟩
 replace u:=(b6 e1).symm.trans u;refine qN (jW (jU (qB h.code) (kB (qB h.i) rfl) (qO (qB h.i) (qB D.w)) (qPz (p:=p) (t:=w+1) (m9 hp) (by simp) (by simp +arith))) (qB D.quote)) (λe=>?_) λe2=>?_
 .obtain e':(c::l).take (w+1)=quoteOf q w:=by rw[<- hd];exact eU e
  replace u:=(d3 e').symm.trans u;obtain hL:=vV (m9 hp) hd;rw[g5]at hL;refine gd_sasg (qO (qB h.i) (qB D.w)) (qG (gd_brk (⟨n,p+1+w,m,i5 _,gz (qEd e') hL,jt I,h.seti (by rfl),?_⟩)));rw[<- lD,F];exact u
 replace u:=(b6 (by
  rw[<- hd];intro S;rw[show(⟨(List.take (w+1) (List.drop p x.cps.toList)).toArray⟩:Str).cps.toList=List.take (w+1) (List.drop p x.cps.toList)from rfl,S,show(⟨(quoteOf q w).toArray⟩:Str).cps.toList=quoteOf q w from rfl]at e2
  simp at e2)).symm.trans u
 refine qAt nlS hch (λe=>?_) λN=>?_
 .replace u:=(d3 e).symm.trans u;refine gd_sasg (qO (qB h.lno) rfl) ?_;obtain h:=h.setlno (i:=(m.lno:Int)+1) (q:=m.lno+1) rfl;obtain D:=D.oth (y:="lno") (v:=.int ((m.lno:Int)+1)) pi;generalize σ.set "lno" (.int ((m.lno:Int)+1))=σ at h D ⊢;refine qN (xK (qB D.w) rfl) (λe=>?_) λe=>?_
  .replace u:=(d3 (by simpa using e)).symm.trans u;refine qQn B h (du hs I hp) λσ' O z=>qG (gd_brk ⟨n,p+1,_,i5 _,hp,?_,O,by rw[F];exact u⟩);split
   .rw[g8,v8];exact v7 I
   .exact m3 I
  .replace u:=(b6 (by simpa using e)).symm.trans u;exact zR ⟨n,p+1,_,i5 _,hp,by exact m3 I,h,D,by rw[F];exact u⟩
 replace u:=(b6 N).symm.trans u;refine qAt bsS hch (λe=>?_) λL=>?_
 .replace u:=(d3 e).symm.trans u;cases J:l with
  |nil=>rw[J]at u;cases u
  |cons d l' =>
   rw[J]at u F;obtain hp2:=vC F;obtain hd2:=xN F;refine qT (by rw[qGm h,e9 hp2]) (qN (zOn hs h F) (λe=>?_) λe=>?_)
   .dsimp only at u;rw[d3 (j6 e)]at u;refine gd_sasg (qO (qB h.lno) rfl) (qF ?_);obtain h:=h.setlno (i:=(m.lno:Int)+1) (q:=m.lno+1) rfl;obtain D:=D.oth (y:="lno") (v:=.int ((m.lno:Int)+1)) pi;generalize σ.set "lno" (.int ((m.lno:Int)+1))=σ at h D ⊢;exact gd_sasg (qO (qB h.i) rfl) (zR (⟨n,p+1+1,_,i5 _,hp2,by exact b7 I (n5 _ 2),h.seti rfl,D.oth pi,by rw[hd2];exact u⟩))
   .dsimp only at u;rw[b6 (w5 e)]at u;exact gd_sasg (qO (qB h.i) rfl) (zR (⟨n,p+1+1,m,i5 _,hp2,b7 I (n5 _ 2),h.seti rfl,D.oth pi,by rw[hd2];exact u⟩))
 replace u:=(b6 L).symm.trans u;exact qF ⟨n,p+1,m,i5 _,hp,m3 I,h,D,by rw[F];exact u⟩
end
end Mine.Lake.L09
namespace Mine.Lake.L09
open PySem PySem.W PyProof.Rows Mine.Lake Mine.Lake.Rp MineTop
section
variable{cx:Sx}{σ:St}{x:Str}{k j p n c q w first:Nat}{H:Hp}{m R:Mk}{l:Ln}{pp:dQ}
theorem zHs(B:Bx (G09 pp) cx):cx.gl "C_BACKSLASH"=some (.int 1):=by rw[B.gl];rfl
theorem zQa(B:Bx (G09 pp) cx):cx.gl "C_STRING_FIRST_LINE"=some (.int 2):=by rw[B.gl];rfl
theorem zPz(B:Bx (G09 pp) cx):cx.gl "C_STRING_NEXT_LINES"=some (.int 3):=by rw[B.gl];rfl
theorem zNg(B:Bx (G09 pp) cx):cx.gl "C_BRACKET"=some (.int 4):=by rw[B.gl];rfl
theorem zNh(B:Bx (G09 pp) cx):cx.gl "C_NONE"=some (.int 0):=by rw[B.gl];rfl
theorem qAg(B:Bx (G09 pp) cx):cx.gl "len"=some (.top (.builtin "len")):=by rw[B.gl];rfl
theorem Inn.mono(h:Inn x k j H R q w first n σ)(F:n<=u):Inn x k j H R q w first u σ:=by obtain⟨a,b,c,h1,h2,h3,h4,h5,D⟩:=h;exact⟨a,b,c,b7 h1 F,h2,h3,h4,h5,D⟩
theorem Nxt.mono(h:Nxt x k j H R n σ)(D:n<=u):Nxt x k j H R u σ:=by obtain⟨a,b,c,h1,h2,h3,h4,h5⟩:=h;exact⟨a,b,c,b7 h1 D,h2,h3,h4,h5⟩
theorem zHq(B:Bx (G09 pp) cx)(h:B1 x k j H p m σ)(u:Qs q w first σ.l):Gd (ex inE cx σ) λf σ'=>f=.next/\B1 x k j H p { m with cont:=if m.lno=first+1 then 2 else 3 } σ':=by
 refine yC (xK (kB (qB h.lno) rfl) (qB u.first)) (λe=>?_) (λe=>?_)
 .rw[d3 (nv e)];exact gd_sasg (qQ (zQa B)) (qF (qF ⟨rfl,h.setcont rfl⟩))
 .rw[b6 (by
   intro D;rw[D]at e
   have:((first+1:Nat):Int)-1=first:=by simp
   rw[this]at e;simp at e)]
  exact gd_sasg (qQ (zPz B)) (qF (qF ⟨rfl,h.setcont rfl⟩))
theorem zHp(B:Bx (G09 pp) cx)(hs:x.length<=1000)(F:n<=1000)(h:Inn x k j H R q w first n σ):Gd (ex inL cx σ) λf σ'=>f=.next/\Nxt x k j H R n σ':=by
 refine xJ (λfuel σ=>Inn x k j H R q w first (min fuel n) σ) (by rw[dX F];exact h) ?_;rintro fuel σ ⟨u,p,m,hn',hp,hz,h,hq,he⟩;cases u with
 |zero=>exact zN1 he
 |succ u =>
 obtain hf:u+1<=fuel:=b7 hn' (lE ..);have D:u+1<=n:=b7 hn' (gB ..);refine⟨fuel-1,dr hf,_,σ,_,qGm h,rfl,λe=>?_,λe=>?_⟩
 .cases hd:x.cps.toList.drop p with
  |nil =>have:=qKq hp hd;have:=j6 e;lia
  |cons c l =>
   rw[hd]at he;refine(zNd B hs h hq hz hd he).mono λf σ' r=>?_;obtain hm:u<=min (fuel-1) n:=Nat.le_min.mpr ⟨fF hf,m9 D⟩;cases f with
   |next=>exact Inn.mono r hm
   |cont=>exact Inn.mono r hm
   |brk=>exact⟨rfl,Nxt.mono r (m9 D)⟩
   |ret v=>exact r.elim
 .obtain hd:x.cps.toList.drop p=[]:=hP (by rw[h9,(ey hp e)];exact i5 _);rw[hd]at he;refine(zHq B h hq).mono ?_;rintro f σ' ⟨rfl,h'⟩;exact⟨rfl,u,p,{ m with cont:=if m.lno=first+1 then 2 else 3 },m9 D,hp,hz,h',by rw[hd];exact he⟩
theorem zPk:qOx H .Mult (.str ⟨#[c]⟩) (.int 3)=.ok (.str ⟨([c,c,c]:Ln).toArray⟩):=by show(if(3:Int)=3/\(⟨#[c]⟩:Str).length=1 then Ov.ok (V.str (⟨#[c]⟩++⟨#[c]⟩++⟨#[c]⟩))else .bad)=_;refine ax (⟨rfl,rfl⟩) ?_;rfl
theorem qBy(B:Bx (G09 pp) cx)(h:σ.l.lookup z=some (.str y)):ev cx.c (.call (.g "len") (.cons (.v z) .nil)) σ=.ok (.int (y.length:Nat)) σ :=
 zJ (σ':=⟨σ.h,[],[]⟩) (qQ (qAg B)) (qE (qB h) rfl) (by rw[B.bl,wL];rfl)
theorem qJe(B:Bx (G09 pp) cx)(hs:x.length<=1000)(D:n<=1000)(h:B1 x k j H p m σ)(hp:p+w<=x.length)(I:m.gl.length<=p+1)(u:σ.l.lookup ("quote":Str)=some (.str ⟨(quoteOf q w).toArray⟩))(F:scan n (.txt q w m.lno) (x.cps.toList.drop (p+w)) m=some R):Gd (ex zPa cx σ) λf σ'=>f=.cont/\Nxt x k j H R n σ':=by
 refine gd_sasg (qB h.lno) ?_;obtain f1:=@qD σ "firstlno" (.int (m.lno:Nat));obtain u:=@qA σ "firstlno" "quote" (.int (m.lno:Nat)) _ pi u;obtain h:=h.oth (y:="firstlno") (v:=.int (m.lno:Nat)) pi;generalize σ.set "firstlno" (.int (m.lno:Nat))=σ at h f1 u ⊢;refine gd_sasg (kB (qBy B u) rfl) ?_;rw[(by
  have:(⟨(quoteOf q w).toArray⟩:Str).length=w+1:=by
   show(quoteOf q w).toArray.size=_
   rw[s8];unfold quoteOf;rw[gC]
  exact gn this:((⟨(quoteOf q w).toArray⟩:Str).length:Int)-1=(w:Nat))]
 obtain f2:=@qD σ "w" (.int (w:Nat));obtain f1:=@qA σ "w" "firstlno" (.int (w:Nat)) _ pi f1;obtain u:=@qA σ "w" "quote" (.int (w:Nat)) _ pi u;obtain h:=h.oth (y:="w") (v:=.int (w:Nat)) pi;generalize σ.set "w" (.int (w:Nat))=σ at h f1 f2 u ⊢;refine gd_sasg (qO (qB h.i) (qB f2)) ?_;refine zA ((zHp B hs D ⟨n,p+w,m,i5 _,hp,ig I,h.seti rfl,(⟨u,f2,f1⟩:Qs q w m.lno σ.l).oth pi,F⟩).mono ?_);rintro f σ' ⟨rfl,h'⟩;exact zR ⟨rfl,h'⟩
theorem zGl(B:Bx (G09 pp) cx)(hs:x.length<=1000)(F:n<=1000)(h:B1 x k j H (p+1) m σ)(J:m.gl.length<=p+1)(I:σ.l.lookup ("ch":Str)=some (.str ⟨#[c]⟩))(hd:x.cps.toList.drop p=c::l)(u:(if(c::l).take 3=[c,c,c]then scan n (.txt c 2 m.lno) (l.drop 2) m else scan n (.txt c 0 m.lno) l m)=some R):Gd (ex zPc cx σ) λf σ'=>f=.cont/\Nxt x k j H R n σ':=by
 obtain hp:=vC hd;obtain hd1:=xN hd;obtain hL:=vV (m9 hp) hd;rw[g5]at hL;refine gd_sasg (qB I) ?_;obtain hq:=@qD σ "quote" (.str ⟨#[c]⟩);obtain h:=h.oth (y:="quote") (v:=.str ⟨#[c]⟩) pi;generalize σ.set "quote" (.str ⟨#[c]⟩)=σ at h hq ⊢;refine qN (jW (jU (qB h.code) (kB (qB h.i) rfl) (qO (qB h.i) rfl) (qPz (p:=p) (t:=3) (m9 hp) (by simp) (by rfl))) (yS (qB hq) rfl zPk)) (λe=>?_) λe=>?_
 .have D:(c::l).take 3=[c,c,c]:=by rw[<- hd];exact eU e
  obtain u:=aw D u;obtain h3:=g0 List.length D;rw[w9,g5]at h3;refine gd_sasg (yS (qB hq) rfl zPk) (qF (qJe (q:=c) (w:=2) B hs F (h.oth pi) (ju hL h3) (m3 J) qD ?_));rw[<- lD,hd1];exact u
 .replace u:=ao (by
   rw[<- hd];intro L
   have e2:((List.drop p x.cps.toList).take 3 == [c,c,c])=false:=e
   rw[L]at e2;simp at e2) u
  exact qJe (q:=c) (w:=0) B hs F h (hp) (m3 J) hq (by rw[oJ,hd1];exact u)
theorem lpS:("(":Str)=⟨#[40]⟩:=pw
theorem rpS:(")":Str)=⟨#[41]⟩:=pw
theorem dqS:("\"":Str)=⟨#[34]⟩:=pw
theorem sqS:("'":Str)=⟨#[39]⟩:=pw
theorem haS:("#":Str)=⟨#[35]⟩:=pw
def Out(x:Str)(k j:Nat)(H:Hp)(R:Mk)(n:Nat)(f:Fl)(σ:St):Prop:=(f=.next\/f=.cont)/\Nxt x k j H R n σ
theorem zBs(B:Bx (G09 pp) cx):cx.get (.str o) "find" H=some (.top (.builtin "str.find"),[.str o]):=by rw[B.get];obtain e:getV (G09 pp) (.str o) "find" H=(strMeth "find").map λi=>(V.top (.builtin i),[V.str o]):=rfl;rw[e];have:strMeth "find"=some "str.find":= ax rfl rfl;rw[this];rfl
theorem qZw(B:Bx (G09 pp) cx)(hs:x.length<=1000)(h:B1 x k j H (p+1) m σ)(L:m.gl.length<=p+1)(N:σ.l.lookup ("ch":Str)=some (.str ⟨#[c]⟩))(u:(if c=35 then(if 10∈l then scan n .out (l.dropWhile (·≠10)) m else none)
  else if c=92 then(match l with
   | []=>none
   |d::l=>scan n .out l (if d=10 then{ m with lno:=m.lno+1,cont:=if l=[]then 1 else m.cont }else m))
  else none)=some R)(hd:x.cps.toList.drop p=c::l):Gd (ex zPb cx σ) (Out x k j H R n):=by
 have hp:=vC hd;have D:=xN hd;refine qAt haS N (λe=>?_) λe1=>?_
 .replace u:=(d3 e).symm.trans u;by_cases hm:10∈l
  .replace u:=(d3 hm).symm.trans u;refine bh (zIf hp D hm) λr e1 e2 S=>gd_sasg (qR (σ':=⟨σ.h,[],[]⟩) (xs:=[.str "\n",.int ((p+1:Nat):Int)]) (v:=.int (r:Nat)) (qB h.code) (zBs B) (qE rfl (qE (qB h.i) rfl)) ?_) ?_
   .rw[B.bl];show bapp "str.find" [.str x,.str "\n",.int ((p+1:Nat):Int)] _=_;rw[qGe,nlS];show okH (.int (dF x ⟨#[10]⟩ ((p+1:Nat):Int))) σ.h=_;rw[e1];rfl
   obtain h':B1 x k j H r m (σ.set "i" (.int (r:Nat))):=h.seti rfl;exact qT (by rw[jV (qB h'.i) rfl,e9 (by exact Int.NonNeg.mk (_+0))]) (zR (⟨.inr rfl,n,r,m,i5 _,m9 e2,b7 L (m3 (by
    rcases Nat.lt_or_ge r (p+1)with c'|c'
    .exfalso
     exact ij c' (vV (m9 e2) S) (vV hp D) ((eK _).length_le)
    .exact c')),h',by rw[S];exact u⟩))
  .replace u:=ao hm u;cases u
 replace u:=(b6 e1).symm.trans u;by_cases e2:c=92
 .replace u:=(d3 e2).symm.trans u;cases O:l with
  |nil=>rw[O]at u;cases u
  |cons d l' =>
   rw[O]at u D;dsimp only at u;have F:=vC D;have J:=xN D;refine qT (by rw[zEd bsS N,e9 e2]) (qT (by rw[qGm h,e9 F]) (qN (zOn hs h D) (λe=>?_) λe=>?_))
   .rw[d3 (j6 e)]at u;refine gd_sasg (qO (qB h.lno) rfl) ?_;obtain h:=h.setlno (i:=(m.lno:Int)+1) (q:=m.lno+1) rfl;generalize σ.set "lno" (.int ((m.lno:Int)+1))=σ at h ⊢;have I:l'=[] ↔ p+1+1=x.length:=by
     have:=vV F J;constructor
     .rintro rfl;rw[List.length_nil]at this;simp_all
     .intro T;exact gV (by simp_all)
    refine qN (xK (qO (qB h.i) rfl) (qB h.n)) (λe=>?_) λe=>?_
    .rw[d3 (I.mpr (dm (a:=p+1+1) e))]at u;refine gd_sasg (qQ (zHs B)) (qF (qF ?_));obtain h:=h.setcont (i:=1) (q:=1) rfl;generalize σ.set "continuation" (.int 1)=σ at h ⊢;exact gd_sasg (qO (qB h.i) rfl) (qF (⟨.inl rfl,n,p+1+1,_,i5 _,F,by exact b7 L (n5 _ 2),h.seti rfl,by rw[J];exact u⟩))
    .rw[b6 (λT=>by
      have:=I.mp T
      rw[show((p+1:Nat):Int)+1=(x.length:Nat)from g0 Nat.cast this]at e
      simp at e)]at u
     exact qF (gd_sasg (qO (qB h.i) rfl) (qF (⟨.inl rfl,n,p+1+1,_,i5 _,F,by exact b7 L (n5 _ 2),h.seti rfl,by rw[J];exact u⟩)))
   .rw[b6 (w5 e)]at u;exact gd_sasg (qO (qB h.i) rfl) (qF (⟨.inl rfl,n,p+1+1,m,i5 _,F,b7 L (n5 _ 2),h.seti rfl,by rw[J];exact u⟩))
 .replace u:=ao e2 u;cases u
theorem zGr(B:Bx (G09 pp) cx)(hs:x.length<=1000)(O:n<=1000)(h:B1 x k j H p m σ)(F:m.gl.length<=p+1)(hd:x.cps.toList.drop p=c::l)(u:scan (n+1) .out (c::l) m=some R):Gd (ex zPg cx σ) (Out x k j H R n):=by
 have hp:=vC hd;have I:=xN hd;rw[scan_out]at u;refine gd_sasg (kC (qB h.code) (qB h.i) (qNx hs hd)) ?_;obtain D:=@qD σ "ch" (.str ⟨#[c]⟩);replace h:=h.oth (y:="ch") (v:=.str ⟨#[c]⟩) pi;generalize σ.set "ch" (.str ⟨#[c]⟩)=σ at h D ⊢;refine gd_sasg (qO (qB h.i) rfl) ?_;replace D:=@qA σ "i" "ch" (.int ((p:Int)+1)) _ pi D;replace h:=h.seti (i:=(p:Int)+1) (q:=p+1) rfl;generalize σ.set "i" (.int ((p:Int)+1))=σ at h D ⊢;refine qAt xS D (λe=>?_) λe1=>?_
 .replace u:=(d3 e).symm.trans u;exact zR ⟨.inr rfl,n,p+1,m,i5 _,hp,m3 F,h,by rw[I];exact u⟩
 replace u:=(b6 e1).symm.trans u;refine qAt nlS D (λe=>?_) λe2=>?_
 .obtain u:=(d3 e).symm.trans u;refine gd_sasg (qO (qB h.lno) rfl) ?_;replace h:=h.setlno (i:=(m.lno:Int)+1) (q:=m.lno+1) rfl;refine qQn B h (du hs F hp) λσ' J z=>zR ⟨.inr rfl,n,p+1,_,i5 _,hp,?_,J,by rw[I];exact u⟩;split
  .rw[g8,v8];exact v7 F
  .exact m3 F
 replace u:=(b6 e2).symm.trans u;refine qAt lpS D (λe=>?_) λN=>?_
 .replace u:=(d3 e).symm.trans u;exact gd_sasg (qO (qB h.lev) rfl) (zR ⟨.inr rfl,n,p+1,_,i5 _,hp,by exact m3 F,h.setlev (q:=m.level+1) rfl,by rw[I];exact u⟩)
 replace u:=(b6 N).symm.trans u;refine qAt rpS D (λe=>?_) λL=>?_
 .replace u:=(d3 e).symm.trans u;refine zA (jP (qB h.lev) (t:=decide (m.level≠0)) ?_ (λe=>?_) λe=>?_)
  .show some (((m.level:Nat):Int)!=0)=_;congr 1;by_cases e0:m.level=0
   .rw[e0];rfl
   .rw[e9 e0];simpa using e0
  .exact gd_sasg (kB (qB h.lev) rfl) (qF (zR ⟨.inr rfl,n,p+1,_,i5 _,hp,by exact m3 F,h.setlev (q:=m.level-1) (cj (r6 (j6 e))),by rw[I];exact u⟩))
  .obtain e0:m.level=0:=by simpa using w5 e
   rw[(by cases m;simp only at e0;subst e0;rfl:({ m with level:=m.level-1 }:Mk)=m)]at u;exact qF (zR ⟨.inr rfl,n,p+1,m,i5 _,hp,m3 F,h,by rw[I];exact u⟩)
 obtain u:=(b6 L).symm.trans u;refine qN (qGl (zEd dqS D) (λz=>zEd sqS D)) (λe=>?_) λe=>?_
 .obtain u:=(d3 (by simpa using e)).symm.trans u;refine(zGl B hs O h F D hd u).mono ?_;rintro f σ' ⟨rfl,J⟩;exact⟨.inr rfl,J⟩
 .obtain u:=(b6 (by simpa using e)).symm.trans u;exact qZw B hs h F D u hd
theorem zAb(B:Bx (G09 pp) cx)(hs:x.length<=1000)(F:n<=1000)(h:Nxt x k j H R n σ):Gd (ex zPf cx σ) λf σ'=>f=.next/\∃p,B1 x k j H p R σ'/\R.gl.length<=1001:=by
 refine xJ (λfuel σ=>Nxt x k j H R (min fuel n) σ) (by rw[dX F];exact h) ?_;rintro fuel σ ⟨u,p,m,hn',hp,hz,h,he⟩;cases u with
 |zero=>exact zN1 he
 |succ u =>
 obtain hf:u+1<=fuel:=b7 hn' (lE ..);have D:u+1<=n:=b7 hn' (gB ..);refine⟨fuel-1,dr hf,_,σ,_,qGm h,rfl,λe=>?_,λe=>?_⟩
 .cases hd:x.cps.toList.drop p with
  |nil =>have:=qKq hp hd;have:=j6 e;lia
  |cons c l =>
   rw[hd]at he;refine(zGr B hs (b7 (m4 D) F) h hz hd he).mono λf σ' r=>?_;obtain hm:u<=min (fuel-1) n:=Nat.le_min.mpr ⟨fF hf,m9 D⟩;obtain⟨rfl|rfl,r⟩:=r
   .exact Nxt.mono r hm
   .exact Nxt.mono r hm
 .obtain hpe:p=x.length:=ey hp e;have hd:x.cps.toList.drop p=[]:=hP (by rw[h9,hpe];exact i5 _);rw[hd]at he;cases he;exact qF ⟨rfl,p,h,ik hs hp hz⟩
end
noncomputable abbrev Flds:=List (Str×V)
structure PO(H:Hp)(k d:Nat)(fs:Flds):Prop where
 inst:H.o k=some (.inst 266 d)
 dict:H.o d=some (.dict fs)
 ne:k≠d
theorem PO.put{fs':Flds}(h:PO H k d fs):PO (hput H d (.dict fs')) k d fs':=⟨(qX h.ne).trans h.inst,vA,h.ne⟩
theorem PO.oth(h:PO H k d fs)(h1:k≠j)(h2:d≠j):PO (hput H j o) k d fs:=⟨(qX h1).trans h.inst,(qX h2).trans h.dict,h.ne⟩
section
variable{cx:Sx}{pp:dQ}{H:Hp}{k d:Nat}{fs:Flds}
theorem PO.at(h:PO H k d fs):jN (G09 pp) (.ref k) H=some (k,d,fs):=by show(H.o k).bind _=_;rw[h.inst];show(H.o d).bind _=_;rw[h.dict];show(if(266:Addr)=266 then some (k,d,fs)else none)=_;exact d3 rfl
theorem qFm(h:H.o j=some (.list xs)):jN (G09 pp) (.ref j) H=none:=by show(H.o j).bind _=_;rw[h];rfl
theorem PO.fld(B:Bx (G09 pp) cx)(h:PO H k d fs){f:Str}{v:V}(u:flds09.contains f)(hv:fs.lookup f=some v)(D:qBs v):cx.fld (.ref k) f H=.ok v:=by rw[B.fld];unfold yM;rw[h.at];refine(d3 u).trans ?_;rw[hv];exact d3 D
theorem PO.setA(B:Bx (G09 pp) cx)(h:PO H k d fs){f:Str}{v:V}(u:flds09.contains f)(D:fs.length<=100):cx.setA (.ref k) f v H=some (hput H d (.dict (setF f v fs))):=by rw[B.setA];unfold zLt;rw[h.at];exact d3 ⟨u,D⟩
theorem qDq(B:Bx (G09 pp) cx)(h:H.o j=some (.list xs)):cx.fld (.ref j) "append" H=.ok (.bnd j):=by rw[B.fld];unfold yM;rw[qFm h];show(if("append":Str)="append"then(qCt H (.ref j)).elim Ov.bad λq=>Ov.ok (.bnd q.1)else Ov.bad)=_;refine(d3 rfl).trans ?_;show((asO (H.o j)).map λxs=>(j,xs)).elim Ov.bad _=_;rw[h];rfl
end
noncomputable def canon:List Str:=["indentwidth","tabwidth","code","study_level","goodlines","continuation","stmt_start","stmt_end","lastch","lastopenbracketpos","stmt_bracketing"]
theorem qFy:∀n,n<=11->∀i,i<11->(canon.getD i ""∈canon.take n ↔ i<n):=pw
theorem qOr:∀n,n<11->canon.take n++[canon.getD n ""]=canon.take (n+1):=pw
def Kx(fs:Flds)(m:Nat):Prop:=∃n,m<=n/\n<=11/\fs.map (·.1)=canon.take n
theorem qUo:∀{fs:Flds},(setF f v fs).map (·.1)=if f∈fs.map (·.1)then fs.map (·.1)else fs.map (·.1)++[f]:=by
 intro F;induction F with
 |nil=>exact  rfl
 |cons zp r D =>
  obtain⟨y,u⟩:=zp;rw[qGw];by_cases h:(f==y)=true
  .rw[d3 h,d3 (by rw[(eU h)];exact .head _)];rfl
  .rw[b6 h];show y::(setF f v r).map (·.1)=_;rw[D];by_cases hm:f∈r.map (·.1)
   .rw[d3 hm,d3 (.tail _ hm)];rfl
   .rw[b6 hm,b6 (λq=>by
     rcases List.mem_cons.mp q with q|q
     .exact(λq=>h (by rw[q];simp)) q
     .exact hm q)];rfl
theorem Kx.set(h:Kx fs m)(hi:i<11)(u:i<=m)(D:canon.getD i ""=f):Kx (setF f v fs) (max m (i+1)):=by
 subst D;refine bh h λn h1 h2 h3=>?_;unfold Kx;rw[qUo,h3];by_cases q:i<n
 .rw[d3 ((qFy n h2 i hi).mpr q)];exact⟨n,Nat.max_le.mpr ⟨h1,q⟩,h2,rfl⟩
 .obtain e:i=n:=eW (b7 u h1) (Nat.not_lt.mp q);rw[b6 (λw=>q ((qFy n h2 i hi).mp w))];subst e;exact⟨i+1,Nat.max_le.mpr ⟨m3 h1,i5 _⟩,hi,qOr i hi⟩
theorem Kx.less(h:Kx fs m)(hm:m'<=m):Kx fs m':=ae h λn h1 h2=> ⟨n,b7 hm h1,h2⟩
theorem Kx.len(h:Kx fs m):fs.length<=100:=by refine bh h λn h1 h2 h3=>?_;have:=g0 List.length h3;rw[m8,w9]at this;rw[this];exact b7 (lE _ _) (b7 h2 pi)
theorem qJr:∀{fs:Flds},y∉fs.map (·.1)->fs.lookup y=none:=by
 intro F;induction F with
 |nil=>exactλw=>rfl
 |cons zp r D =>obtain⟨z,u⟩:=zp;intro h;simp only[k8,(beq_eq_false_iff_ne.mpr λq=>h (q ▸ .head _):(y==z)=false)];exact D λq=>h (.tail _ q)
theorem Kx.m{m:Nat}(h:Kx fs m)(u:y∉canon):fs.lookup y=none:=by refine bh h λn z z h3=>qJr λq=>u ?_;rw[h3]at q;exact gO q
theorem qW{y:Str}{v:V}:∀{fs:Flds},(setF y v fs).lookup y=some v:=by
 intro F;induction F with
 |nil=>show k8 y [(y,v)]=some v;simp
 |cons zp r D =>
  obtain⟨z,u⟩:=zp;rw[qGw];by_cases h:(y==z)=true
  .rw[d3 h,k8,h]
  .rw[b6 h,k8];rw[(Bool.eq_false_iff.mpr h)];exact D
theorem qC(D:(x==y)=false):∀{fs:Flds},(setF y v fs).lookup x=fs.lookup x:=by
 intro I;induction I with
 |nil =>show(k8 x [(y,v)])=none;rw[k8,D];rfl
 |cons zp r F =>
  obtain⟨z,u⟩:=zp;rw[qGw];by_cases h:(y==z)=true
  .obtain e:y=z:=eU h;subst e;rw[d3 h,k8,D,k8,D]
  .rw[b6 h,k8,k8,F]
structure FsP(fs:Flds)(iw tw:Int)(x:Str)(l:Int):Prop where
 kx:Kx fs 4
 iw:fs.lookup ("indentwidth":Str)=some (.int iw)
 tw:fs.lookup ("tabwidth":Str)=some (.int tw)
 code:fs.lookup ("code":Str)=some (.str x)
 lev:fs.lookup ("study_level":Str)=some (.int l)
theorem FsP.setLev{iw tw:Int}(h:FsP fs iw tw x l):FsP (setF "study_level" (.int l') fs) iw tw x l' :=
 ⟨(h.kx.set (i:=3) pi pi pw).less pi,(qC pi).trans h.iw,(qC pi).trans h.tw,(qC pi).trans h.code,qW⟩
noncomputable def grown(H:Hp)(d:Nat)(D L:O):Hp:={ o:=λi=>if i=H.n then some L else if i=d then some D else H.o i,n:=H.n+1 }
noncomputable def base(H:Hp)(d:Nat)(D:O):Hp:={ o:=λi=>if i=d then some D else H.o i,n:=H.n+1 }
theorem qDm:hput (base H d D) H.n L=grown H d D L:=rfl
theorem qUy(h:d≠H.n):hput (grown H d D L) d D'=grown H d D' L:=by
 refine g0 (λo=>Hp.mk o (H.n+1)) (funext λj=>?_);show(if j=d then some D' else if j=H.n then some L else if j=d then some D else H.o j)=if j=H.n then some L else if j=d then some D' else H.o j;by_cases h1:j=d
 .subst h1;rw[d3 rfl,b6 h,d3 rfl]
 .rw[b6 h1,b6 h1,b6 h1]
theorem zJp(h:d≠H.n):hput (Hp.add (hput H d D) L) d D'=grown H d D' L:=by
 refine g0 (λo=>Hp.mk o (H.n+1)) (funext λj=>?_);show(if j=d then some D' else if j=H.n then some L else if j=d then some D else H.o j)=if j=H.n then some L else if j=d then some D' else H.o j;by_cases h1:j=d
 .subst h1;rw[d3 rfl,b6 h,d3 rfl]
 .rw[b6 h1,b6 h1,b6 h1]
section
variable{cx:Sx}{pp:dQ}{σ:St}{x:Str}{k d j:Nat}{H:Hp}{R:Mk}{fs:Flds}
theorem zAf(h:gl.getLast?=some a)(u:gl.length<=2000)(hp:σ.h=hput H j (.list (natsV gl))):idxV σ.h (.ref j) (.int (-1))=.ok (.int (a:Nat)):=by
 obtain hne:gl.length≠0:=by rintro q;rw[gV q]at h;cases h
 refine vT (xs:=natsV gl) (j:=gl.length-1) rfl ?_ pi ?_ ?_
 .rw[hp];show(match(hput H j (.list (natsV gl))).o j with|some (.list xs)=>some xs|_=>none)=_;rw[vA]
 .unfold natsV;rw[m8];exact(by
  unfold seqIndex?
  rw[(by refine ax pi ?_;exact im hne:(if(-1:Int)<0 then(-1:Int)+gl.length else -1)=((gl.length-1:Nat):Int))]
  exact(d3 (by rw[i6];exact⟨e9 (u0 _),e9 (Int.ofNat_lt.mpr (gW (r6 hne) pi))⟩)).trans (g0 some (dH _)):seqIndex? (-1) gl.length=some (gl.length-1))
 .unfold natsV;rw[mR];rw[eE]at h;rw[h];rfl
theorem qQm{a b:Nat}:((a:Int)==(b:Int))=decide (a=b):=by
 by_cases e:a=b
 .subst e;simp
 .rw[k9 e];exact beq_eq_false_iff_ne.mpr λq=>e (Int.ofNat_inj.mp q)
theorem zCj(B:Bx (G09 pp) cx)(hd:d≠H.n)(h:B1 x k H.n (base H d D) p m σ)(F:PO (grown H d D (.list (natsV m.gl))) k d fs)(N:Kx fs 5)(u:m.gl.length<=1001)(L:m.gl.getLast?=some a)(J:decide (m.cont=0)=decide (a=m.lno)):Gd (ex zNs cx σ) λf σ'=>f=.next/\σ'.h=grown H d (.dict (setF "continuation" (.int (m.cont:Nat)) fs)) (.list (natsV (if a=m.lno then m.gl else m.gl++[m.lno]))):=by
 refine qG (xI (qB h.cont) (qB h.self) (H:=grown H d (.dict (setF "continuation" (.int (m.cont:Nat)) fs)) (.list (natsV m.gl))) ?_ ?_)
 .rw[h.hp,qDm,F.setA B pi N.len,qUy hd]
 have h2:B1 x k H.n (base H d (.dict (setF "continuation" (.int (m.cont:Nat)) fs))) p m { σ with h:=grown H d (.dict (setF "continuation" (.int (m.cont:Nat)) fs)) (.list (natsV m.gl)) }:=
  ⟨h.self,h.code,h.cont,h.lev,h.lno,h.good,h.push,h.i,h.n,rfl⟩
 generalize({ σ with h:=grown H d (.dict (setF "continuation" (.int (m.cont:Nat)) fs)) (.list (natsV m.gl)) }:St)=σ at h2 ⊢;have hi:=zAf L (b7 u pi) h2.hp;refine qT ?_ ?_
 .rw[zOq (xK (qB h2.cont) (qQ (zNh B))) (xK (kC (qB h2.good) qEh hi) (qB h2.lno)),qQm,show(((m.cont:Nat):Int)==0)=decide (m.cont=0)from qQm (b:=0),J,gE]
 refine qN (qWn (kC (qB h2.good) qEh hi) (qB h2.lno)) (λe=>?_) (λe=>?_)
 .rw[b6 (by rintro rfl;simp at e)];exact zC (zJ (qB h2.push) (qE (qB h2.lno) rfl) (by
   rw[B.bd,h2.hp]
   show((asO ((hput (base H d (.dict (setF "continuation" (.int (m.cont:Nat)) fs))) H.n (.list (natsV m.gl))).o H.n)).map λxs=>(H.n,xs)).elim Rs.bad _=_
   rw[vA]
   refine(d3 (by
    unfold natsV;rw[m8]
    have:j0=16777216:=by decide
    exact jv u this)).trans ?_
   show okH .none (hput (hput (base H d (.dict (setF "continuation" (.int (m.cont:Nat)) fs))) H.n (.list (natsV m.gl))) H.n (.list (natsV m.gl++[.int (m.lno:Nat)])))=_
   rw[qKe,<- qDm]
   unfold natsV;rw[fD];rfl:cx.app (.bnd H.n) [.int (m.lno:Nat)] σ.h=okH .none (grown H d (.dict (setF "continuation" (.int (m.cont:Nat)) fs)) (.list (natsV (m.gl++[m.lno])))))) (qF (qF ⟨rfl,rfl⟩))
 .rw[d3 (by
   have:((a:Int)==(m.lno:Int))=true:=by
    cases I:((a:Int)==(m.lno:Int))with
    |true=>rfl
    |false=>rw[bne,I]at e;exact zT1 e
   exact dm this)]
  exact qF ⟨rfl,h2.hp⟩
theorem zCk(B:Bx (G09 pp) cx){D:O}(hd:d≠H.n)(h:B1 x k H.n (base H d D) p R σ)(V:PO (grown H d D (.list (natsV R.gl))) k d fs)(T:Kx fs 5)(U:R.gl.length<=1001)(J:R.gl≠[]){gl:Ln}{c:Nat}(u:ends R=some (gl,c)):Gd (ex zQj cx σ) λf σ'=>f=.next/\σ'.h=grown H d (.dict (setF "continuation" (.int (c:Nat)) fs)) (.list (natsV gl)):=by
 unfold ends at u;dsimp only at u;obtain⟨a,S⟩:∃a,R.gl.getLast?=some a:=⟨R.gl.getLast J,r5 J⟩
 have F:(R.gl.getLast?=some R.lno) ↔ a=R.lno:=by rw[S];exact⟨λq=>b5 q,λq=>g0 some q⟩
 have I:∀(c':Nat)(σ:St),(if R.cont≠2/\R.cont≠3/\0<R.level then 4 else R.cont)=c'->B1 x k H.n (base H d D) p { R with cont:=c' } σ->Gd (ex zNs cx σ) λf σ'=>f=.next/\σ'.h=grown H d (.dict (setF "continuation" (.int (c:Nat)) fs)) (.list (natsV gl)):=by
  intro c' σ N X;rw[N]at u;by_cases L:decide (c'=0)=decide (R.gl.getLast?=some R.lno)
  .replace u:=aw L u;obtain e:=b5 u;obtain e1:(if R.gl.getLast?=some R.lno then R.gl else R.gl++[R.lno])=gl:=g0 Prod.fst e;obtain e2:c'=c:=g0 Prod.snd e;clear e u;subst e2;rw[<- (by
    rw[<- e1]
    by_cases q:a=R.lno
    .rw[d3 q,d3 (F.mpr q)]
    .rw[b6 q,b6 λY=>q (F.mp Y)]:(if a=R.lno then R.gl else R.gl++[R.lno])=gl)]
   exact zCj B hd X V T U (a:=a) S (by rw[L];exact decide_eq_decide.mpr F)
  .replace u:=ao L u;cases u
 refine qN (t:=(decide (R.cont≠2)&&(decide (R.cont≠3)&&decide (0<R.level)))) (vK (p:=decide (R.cont≠2)) ?_ λz=>vK (p:=decide (R.cont≠3)) ?_ λz=>?_) (λe=>?_) (λe=>?_)
 .rw[qWn (qB h.cont) (qQ (zQa B))];congr 2;by_cases e:R.cont=2
  .rw[e];rfl
  .rw[e9 e];simpa using(rF rfl rfl e:¬((R.cont:Nat):Int)=2)
 .rw[qWn (qB h.cont) (qQ (zPz B))];congr 2;by_cases e:R.cont=3
  .rw[e];rfl
  .rw[e9 e];simpa using(rF rfl rfl e:¬((R.cont:Nat):Int)=3)
 .rw[qWp (qB h.lev) rfl];congr 2;by_cases e:0<R.level
  .rw[e9 e];exact e9 (by simp[e])
  .rw[k9 e];exact k9 (by simp[e])
 .exact gd_sasg (qQ (zNg B)) (qF (I 4 _ (d3 (by
   rw[i6,i6]at e
   exact⟨j6 e.1,j6 e.2.1,j6 e.2.2⟩)) (h.setcont rfl)))
 .exact I R.cont σ (b6 (by
   rintro⟨h1,h2,h3⟩
   rw[e9 h1,e9 h2,e9 h3]at e;exact zT1 e)) h
theorem qWb(B:Bx (G09 pp) cx)(hs:x.length<=1000)(hd:d<H.n)(hk:k<H.n)(h1:σ.l.lookup ("self":Str)=some (.ref k))(h2:σ.l.lookup ("code":Str)=some (.str x))(F:σ.h=hput H d (.dict fs))(u:PO σ.h k d fs)(S:Kx fs 4)(T:scan 1000 .out x.cps.toList ⟨0,0,[0],0⟩=some R)(U:ends R=some (gl,c))(N:R.gl≠[]):Gd (ex zDg cx σ) λf σ'=>f=.next/\σ'.h=grown H d (.dict (setF "continuation" (.int (c:Nat)) (setF "goodlines" (.ref H.n) fs))) (.list (natsV gl)):=by
 have I:d≠H.n:=n3 hd;have J:k≠H.n:=n3 hk;obtain hPg:∀(D:Flds)(L:O),PO (grown H d (.dict D) L) k d D:=λD L=>by
  refine⟨?_,(b6 I).trans (d3 rfl),u.ne⟩
  .obtain e:=u.inst;rw[F,qX u.ne]at e;exact(b6 J).trans ((b6 u.ne).trans e)
 refine gd_sasg (qQ (zNh B)) ?_;obtain h1:=@qA σ "continuation" "self" (.int 0) _ pi h1;obtain h2:=@qA σ "continuation" "code" (.int 0) _ pi h2;obtain h3:=@qD σ "continuation" (.int 0);obtain F:(σ.set "continuation" (.int 0)).h=_:=F;obtain u:PO (σ.set "continuation" (.int 0)).h k d fs:=u;generalize σ.set "continuation" (.int 0)=σ at h1 h2 h3 F u ⊢;refine qG (uP (v:=.int 0) (a0:=σ) rfl ?_);obtain h1:=@qA _ "lno" "self" (.int 0) _ pi (@qA σ "level" "self" (.int 0) _ pi h1);obtain h2:=@qA _ "lno" "code" (.int 0) _ pi (@qA σ "level" "code" (.int 0) _ pi h2);obtain h3:=@qA _ "lno" "continuation" (.int 0) _ pi (@qA σ "level" "continuation" (.int 0) _ pi h3);obtain h4:=@qA (σ.set "level" (.int 0)) "lno" "level" (.int 0) _ pi qD;obtain h5:=@qD (σ.set "level" (.int 0)) "lno" (.int 0);obtain F:((σ.set "level" (.int 0)).set "lno" (.int 0)).h=_:=F;obtain u:PO ((σ.set "level" (.int 0)).set "lno" (.int 0)).h k d fs:=u;generalize(σ.set "level" (.int 0)).set "lno" (.int 0)=σ at h1 h2 h3 h4 h5 F u ⊢;obtain hnx:σ.n=H.n:=by rw[F];rfl
 refine qG (zHz (xs:=[.int 0]) (a0:=σ) (a7:=σ.add (.list [.int 0])) (H:=grown H d (.dict (setF "goodlines" (.ref H.n) fs)) (.list [.int 0])) (vF (qE rfl rfl) pi) (qB h1) ?_ ?_)
 .rw[(by
  obtain e:∀i,i≠H.n->(σ.add (.list [.int 0])).o i=σ.o i:=λi hi=>b6 (by rw[hnx];exact hi)
  exact⟨(e k J).trans u.inst,(e d I).trans u.dict,u.ne⟩:PO (σ.add (.list [.int 0])).h k d fs).setA B pi S.len,(by
  show Hp.add σ.h _=_
  rw[F]:(σ.add (.list [.int 0])).h=Hp.add (hput H d (.dict fs)) (.list [.int 0])),hnx,zJp I]
 rw[hnx];obtain h1:(({ σ.add (.list [.int 0])with h:=grown H d (.dict (setF "goodlines" (.ref H.n) fs)) (.list [.int 0]) }:St).set "goodlines" (.ref H.n)).l.lookup ("self":Str)=_:=zX2 h1;obtain h2:(({ σ.add (.list [.int 0])with h:=grown H d (.dict (setF "goodlines" (.ref H.n) fs)) (.list [.int 0]) }:St).set "goodlines" (.ref H.n)).l.lookup ("code":Str)=_:=zX2 h2;obtain h3:(({ σ.add (.list [.int 0])with h:=grown H d (.dict (setF "goodlines" (.ref H.n) fs)) (.list [.int 0]) }:St).set "goodlines" (.ref H.n)).l.lookup ("continuation":Str)=_:=zX2 h3;obtain h4:(({ σ.add (.list [.int 0])with h:=grown H d (.dict (setF "goodlines" (.ref H.n) fs)) (.list [.int 0]) }:St).set "goodlines" (.ref H.n)).l.lookup ("level":Str)=_:=zX2 h4;obtain h5:(({ σ.add (.list [.int 0])with h:=grown H d (.dict (setF "goodlines" (.ref H.n) fs)) (.list [.int 0]) }:St).set "goodlines" (.ref H.n)).l.lookup ("lno":Str)=_:=zX2 h5;obtain h6:(({ σ.add (.list [.int 0])with h:=grown H d (.dict (setF "goodlines" (.ref H.n) fs)) (.list [.int 0]) }:St).set "goodlines" (.ref H.n)).l.lookup ("goodlines":Str)=_:=qD;obtain hg:(({ σ.add (.list [.int 0])with h:=grown H d (.dict (setF "goodlines" (.ref H.n) fs)) (.list [.int 0]) }:St).set "goodlines" (.ref H.n)).h=grown H d (.dict (setF "goodlines" (.ref H.n) fs)) (.list [.int 0]):=rfl;generalize({ σ.add (.list [.int 0])with h:=grown H d (.dict (setF "goodlines" (.ref H.n) fs)) (.list [.int 0]) }:St).set "goodlines" (.ref H.n)=σ at h1 h2 h3 h4 h5 h6 hg ⊢;obtain hG:Kx (setF "goodlines" (.ref H.n) fs) 5:=S.set (i:=4) pi pi pw;generalize setF "goodlines" (.ref H.n) fs=fs' at hg hG;refine gd_sasg (qK (qB h6) (qDq B (xs:=[.int 0]) (by rw[hg];exact d3 rfl))) ?_;obtain h1:=@qA σ "push_good" "self" (.bnd H.n) _ pi h1;obtain h2:=@qA σ "push_good" "code" (.bnd H.n) _ pi h2;obtain h3:=@qA σ "push_good" "continuation" (.bnd H.n) _ pi h3;obtain h4:=@qA σ "push_good" "level" (.bnd H.n) _ pi h4;obtain h5:=@qA σ "push_good" "lno" (.bnd H.n) _ pi h5;obtain h6:=@qA σ "push_good" "goodlines" (.bnd H.n) _ pi h6;obtain h7:=@qD σ "push_good" (.bnd H.n);obtain hg:(σ.set "push_good" (.bnd H.n)).h=_:=hg;generalize σ.set "push_good" (.bnd H.n)=σ at h1 h2 h3 h4 h5 h6 h7 hg ⊢;refine qG (qHr (qAo (qE rfl (qE (qBy B h2) rfl)) (by show 2<=j0;decide)) ?_);obtain hB:B1 x k H.n (base H d (.dict fs')) 0 ⟨0,0,[0],0⟩ ((σ.set "i" (.int 0)).set "n" (.int (x.length:Nat))):=
  ⟨zX2 (zX2 h1),zX2 (zX2 h2),zX2 (zX2 h3),zX2 (zX2 h4),zX2 (zX2 h5),zX2 (zX2 h6),zX2 (zX2 h7),zX2 qD,qD,hg⟩
 generalize(σ.set "i" (.int 0)).set "n" (.int (x.length:Nat))=σ at hB ⊢;refine zA ((zAb (R:=R) B hs (i5 1000) ⟨1000,0,_,i5 _,v0 _,by decide,hB,T⟩).mono ?_);rintro f σ' ⟨rfl,p,hB',hl⟩;exact zCk B I hB' (hPg _ _) hG hl N U
theorem qSk(B:Bx (G09 pp) cx)(hd:d<H.n)(hk:k<H.n)(U:PO H k d fs)(L:FsP fs iw tw x 0)(hs:small x)(T:study (lastp (four (x.cps.toList.map tr12)))=some (gl,c))(O:∀R,scan 1000 .out (lastp (four (x.cps.toList.map tr12))) ⟨0,0,[0],0⟩=some R->R.gl≠[])(h1:l.lookup ("self":Str)=some (.ref k)):Gd (ex yZ cx { h:=H,l:=l,e:=ce }) λf σ'=>f=.next/\σ'.h=grown H d (.dict (setF "continuation" (.int (c:Nat)) (setF "goodlines" (.ref H.n) (setF "study_level" (.int 1) fs)))) (.list (natsV gl)):=by
 refine ae (zLu zKm hs) λS e1 e2=>bC λY=>?_;obtain⟨R,N,X⟩:∃R,scan 1000 .out (lastp (four (x.cps.toList.map tr12))) ⟨0,0,[0],0⟩=some R/\ends R=some (gl,c):=pz T;refine Y ?_;have u:({ h:=H,l:=l,e:=ce }:St).l.lookup ("self":Str)=some (.ref k):=h1;have D:PO ({ h:=H,l:=l,e:=ce }:St).h k d fs:=U;obtain hH':({ h:=H,l:=l,e:=ce }:St).h=H:=rfl;generalize({ h:=H,l:=l,e:=ce }:St)=σ at u D hH' ⊢;refine qN (t:=decide ((0:Int)≥1)) (jV (qK (qB u) (D.fld B pi L.lev rfl)) rfl) (λq=>d9 q pi) λz=>qG (xI (a0:=σ) (v:=.int 1) rfl (qB u) (D.setA B pi L.kx.len) ?_);obtain hP2:PO ({ σ with h:=hput σ.h d (.dict (setF "study_level" (.int 1) fs)) }:St).h k d _:=D.put;have F:({ σ with h:=hput σ.h d (.dict (setF "study_level" (.int 1) fs)) }:St).l.lookup ("self":Str)=some (.ref k):=u;have I:({ σ with h:=hput σ.h d (.dict (setF "study_level" (.int 1) fs)) }:St).h=hput H d (.dict (setF "study_level" (.int 1) fs)):=by rw[<- hH']
 generalize({ σ with h:=hput σ.h d (.dict (setF "study_level" (.int 1) fs)) }:St)=σ at hP2 F I ⊢;have J:=L.setLev (l':=1);generalize setF "study_level" (.int 1) fs=fs2 at hP2 I J ⊢;exact gd_sasg (qK (qB F) (hP2.fld B pi J.code rfl)) (zQb (f:=tr12) (v:=x) (v':=S) qD (vt:=.top (.ref 108)) (by rw[B.gl];rfl) (by rw[B.tr];rfl) e1 (qWb B (by
  obtain h3:S.cps.toList.length<=x.cps.toList.length:=by
   rw[e2]
   refine b7 (vH pi _ _) (b7 (vH pi _ _) (b7 (vH pi _ _) (b7 (vH pi _ _) (b7 (vH pi _ _) ?_))))
   rw[m8];exact i5 _
  rw[h9,h9]at h3
  exact b7 h3 hs.2) hd hk (zX2 (zX2 F)) qD I hP2 J.kx (by rw[e2];exact N) X (O R N)))
end
abbrev T(pp:dQ)(n:Nat):Sx:=tower (G09 pp) rows09 172 n
section
variable{pp:dQ}{k d:Nat}{H:Hp}{fs:Flds}{x:Str}
theorem wR(u:rows09.lookup f=some (sc,ps,b))(F:args.length=ps.length)(I:ex b cx (entry (ps.zip args) H)=.ok D σ')(J:retR D σ'=.ok v σ')(hc:uF sc ps:=by decide +kernel):zU rows09 cx f args H=.ok v σ':=by unfold zU;rw[u];dsimp only;unfold runFn;rw[d3 F,qHw hc,Rs.bind_ok I,J]
theorem vY(u:f≠266/\(qIy f).isNone):∀n,(T pp (n+1)).app (.top (.ref f)) args H=zU rows09 (T pp n) f args H
 |0=>by
  show((G09 pp).rx f).elim _ _=_
  rw[show(G09 pp).rx f=none from Option.isNone_iff_eq_none.mp u.2];rfl
 |_+1=>by
  show((G09 pp).rx f).elim _ _=_
  rw[show(G09 pp).rx f=none from Option.isNone_iff_eq_none.mp u.2];exact b6 u.1
theorem qAl(Q:Hp->Prop)(D:f≠266/\(qIy f).isNone)(u:rows09.lookup f=some (sc,ps,b))(F:args.length=ps.length)(h:∀σ:St,σ.l=ps.zip args->σ.h=H->Gd (ex b (T pp n) σ) λf σ'=>retR f σ'=.ok v σ'/\Q σ'.h)(hc:uF sc ps:=by decide +kernel):∃σ',(T pp (n+1)).app (.top (.ref f)) args H=.ok v σ'/\Q σ'.h:=by
 obtain⟨I,σ',e,r,w⟩:=h (entry (ps.zip args) H) rfl rfl;exact⟨σ',by rw[vY D];exact wR u F e r hc,w⟩
theorem PO.get{cx:Sx}(B:Bx (G09 pp) cx)(h:PO H k d fs){m:Str}{a:Addr}(hm:fs.lookup m=none)(u:meths09.lookup m=some a):cx.get (.ref k) m H=some (.top (.ref a),[.ref k]):=by rw[B.get];show(jN (G09 pp) (.ref k) H).elim _ _=_;rw[h.at];refine(d3 hm).trans ?_;show(meths09.lookup m).map _=_;rw[u];rfl
structure FsI(fs:Flds)(iw tw:Int):Prop where
 kx:Kx fs 2
 iw:fs.lookup ("indentwidth":Str)=some (.int iw)
 tw:fs.lookup ("tabwidth":Str)=some (.int tw)
theorem FsI.set{fs:Flds}{iw tw:Int}(h:FsI fs iw tw)(x:Str):FsP (setF "study_level" (.int 0) (setF "code" (.str x) fs)) iw tw x 0 :=
 ⟨((h.kx.set (i:=2) pi pi pw).set (i:=3) pi pi pw),(qC pi).trans ((qC pi).trans h.iw),(qC pi).trans ((qC pi).trans h.tw),(qC pi).trans qW,qW⟩
theorem qUw(hs:x.length<=1000){l:Ln}{c:Nat}(u:x.cps.toList=l++[c]):idxV H (.str x) (.int (-1))=.ok (.str ⟨#[c]⟩):=by
 obtain hl:x.length=l.length+1:=by have:=g0 List.length u;rw[h9,g8,v8]at this;exact this
 refine qHp (j:=l.length) pi (by
  unfold seqIndex?
  rw[(by refine ax pi ?_;exact io hl:(if(-1:Int)<0 then(-1:Int)+x.length else -1)=((l.length:Nat):Int))]
  exact(d3 (by rw[i6];exact⟨e9 (by simp),e9 (jx hl)⟩)).trans (g0 some (dH _))) ?_
 rw[<- aV,u,dG (i5 _),gU];rfl
def zOg(x:Str):Prop:=x.cps.toList=[]\/∃l,x.cps.toList=l++[10]
theorem qAp(hs:x.length<=1000)(u:zOg x)(F:PO H k d fs)(I:FsI fs iw tw):∃σ',(T pp (n+1)).app (.top (.ref 179)) [.ref k,.str x] H=.ok .none σ'/\σ'.h=hput H d (.dict (setF "study_level" (.int 0) (setF "code" (.str x) fs))):=by
 obtain B:=qDs (G:=G09 pp) (rows:=rows09) (fI:=172) n;refine qAl (· = hput H d (.dict (setF "study_level" (.int 0) (setF "code" (.str x) fs)))) pi (by rfl) rfl λσ J h3=>?_;obtain h1:σ.l.lookup ("self":Str)=some (.ref k):=by rw[J];rfl
 have h2:σ.l.lookup ("s":Str)=some (.str x):=by rw[J];rfl
 refine qT ?_ ?_
 .obtain e1:=xK (qBy B h2) (show ev (T pp n).c (.int 0) σ=.ok (.int 0) σ from rfl);exact(by
   intro q D
   rw[D]at e1
   cases q with
   |true=>exact qGl (q:=true) e1 (λh=>zT1 h)
   |false =>
    refine qGl (q:=true) e1 (λz=>?_)
    rcases u with u|⟨l,u⟩
    .exfalso
     rw[(by
      have:=g0 List.length u
      rw[h9]at this
      exact this:x.length=0)]at D;exact zT1 D
    .rw[jW (kC (qB h2) qEh (qUw hs u)) rfl,nlS];rfl:∀q:Bool,(((x.length:Nat):Int)==0)=q->ev (T pp n).c (.or (.cmp .Eq (qd "s") (.int 0)) (.cmp .Eq (.idx "s" (.neg (.int 1))) (.str "\n"))) σ=.ok (.bool true) σ) _ rfl
 rw[<- h3]at F ⊢;exact qG (xI (qB h2) (qB h1) (F.setA B pi I.kx.len) (qG (xI (v:=.int 0) rfl (qB h1) ((F.put (fs':=setF "code" (.str x) fs)).setA B pi (I.kx.set (i:=2) pi pi pw).len) (qF ⟨rfl,qKe⟩))))
structure Ready(H:Hp)(k d:Nat)(fs:Flds)(iw tw:Int)(x:Str)(gl:Ln)(c:Nat):Prop where
 po:PO H k d fs
 k:k<H.n
 d:d<H.n
 fs:FsP fs iw tw x 0
 small:small x
 study:study (lastp (four (x.cps.toList.map tr12)))=some (gl,c)
 ne:∀R,scan 1000 .out (lastp (four (x.cps.toList.map tr12))) ⟨0,0,[0],0⟩=some R->R.gl≠[]
def stud(fs:Flds)(j c:Nat):Flds:=setF "continuation" (.int (c:Nat)) (setF "goodlines" (.ref j) (setF "study_level" (.int 1) fs))
theorem qSm(h:Ready H k d fs iw tw x gl c):∃σ',(T pp (n+1)).app (.top (.ref 200)) [.ref k] H=.ok .none σ'/\σ'.h=grown H d (.dict (stud fs H.n c)) (.list (natsV gl)):=by obtain⟨f,σ',e,rfl,e2⟩:=qSk (qDs (G:=G09 pp) (rows:=rows09) (fI:=172) n) h.d h.k h.po h.fs h.small h.study h.ne (l:=[("self",.ref k)]) rfl (ce:=[]);refine⟨σ',?_,e2⟩;rw[vY pi];exact wR (by rfl) rfl e rfl
theorem zBn{D:Flds}(h:PO H k d fs)(hk:k<H.n)(hd:d<H.n):PO (grown H d (.dict D) L) k d D :=
 ⟨(b6 (n3 hk)).trans ((b6 h.ne).trans h.inst),(b6 (n3 hd)).trans (d3 rfl),h.ne⟩
structure FsS(fs:Flds)(iw tw:Int)(x:Str)(l:Int)(j c:Nat):Prop extends FsP fs iw tw x l where
 kx6:Kx fs 6
 good:fs.lookup ("goodlines":Str)=some (.ref j)
 cont:fs.lookup ("continuation":Str)=some (.int (c:Nat))
theorem zEu(h:FsP fs iw tw x 0):FsS (stud fs j c) iw tw x 1 j c:=by have h1:=h.setLev (l':=1);obtain k2:=(h1.kx.set (i:=4) (f:="goodlines") (v:=.ref j) pi pi pw).set (i:=5) (f:="continuation") (v:=.int (c:Nat)) pi pi pw;exact⟨⟨k2.less pi,(qC pi).trans ((qC pi).trans h1.iw),(qC pi).trans ((qC pi).trans h1.tw),(qC pi).trans ((qC pi).trans h1.code),(qC pi).trans ((qC pi).trans h1.lev)⟩,k2,(qC pi).trans qW,qW⟩
end
end Mine.Lake.L09
namespace Mine.Lake.L09
open PySem PySem.W PyProof.Rows Mine.Lake Mine.Lake.Rp Mine.Lake.Re MineTop
noncomputable def nlT:Str:="\n"
def rfindF(x:Str)(j:Int):Int:=jI x nlT (upTo x.length 0) (min (upTo x.length j) x.length)
def back(x:Str):Nat->Int->Int
 |0,p=>p
 |n+1,p=>back x n (rfindF x (p-1)+1)
def reAt(code:Array Nat)(x:Str)(u:List Int):Option (Option (Nat×Nat)):=if uD u then qS code x.cps (min (xV u).toNat x.cps.size) (min (xW u).toNat x.cps.size)else none
def stmtF(x:Str)(gl:Ln):Nat->Nat->Int->Int->Option (Nat×Int×Int)
 |0,_,_,_=>none
 |_+1,0,p,q=>some (0,p,q)
 |n+1,i+1,p,q=>if p=0 then none else
  (gl[i]?).bind λa=>(gl[i+1]?).bind λb=>if Builtin.Range.small (a:Nat) (b:Nat) 1 then
   (reAt junkC x [back x (j5 (a:Nat) (b:Nat) 1).toNat p]).bind λr=>match r with
    |some _=>stmtF x gl n i (back x (j5 (a:Nat) (b:Nat) 1).toNat p) p
    |none=>some (i+1,back x (j5 (a:Nat) (b:Nat) 1).toNat p,p)
  else none
def signAt(x:Str)(i:Int):Option Str:=if kT i then((seqIndex? i x.length).bind (x.cps[·]?)).map λc=>⟨#[c]⟩else none
noncomputable def ln(l:List Int):Int:=(l.length:Nat)
structure S2 where
 p:Int
 stack:List Int
 brk:List (Int×Int)
 last:Str
def yV(x:Str)(p:Int):Nat->Int->Option Int
 |0,_=>none
 |n+1,i=>if i≥p then(signAt x i).bind λc=>if m6 " \t\n" c=true then yV x p n (i-1)else some i else some i
def xR(x:Str)(q:Int)(s:S2):Option S2:=(signAt x s.p).bind λch =>
 if m6 "([{" ch then some { p:=s.p+1,stack:=s.stack++[s.p],brk:=s.brk++[(s.p,ln (s.stack++[s.p]))],last:=ch }
 else if m6 ")]}" ch then some { p:=s.p+1,stack:=s.stack.dropLast,brk:=s.brk++[(s.p+1,ln s.stack.dropLast)],last:=ch }
 else if ch="\""\/ch="'"then(reAt stringC x [s.p,q]).bind λr=>r.bind λm=>some { p:=(m.2:Nat),stack:=s.stack,brk:=s.brk++[(s.p,ln s.stack+1)]++[(((m.2:Nat):Int),ln s.stack)],last:=ch }
 else if ch="#"then(if kF x nlT (upTo x.length s.p) (min (upTo x.length q) x.length)+1>0 then some { p:=kF x nlT (upTo x.length s.p) (min (upTo x.length q) x.length)+1,stack:=s.stack,brk:=s.brk++[(s.p,ln s.stack+1)]++[(kF x nlT (upTo x.length s.p) (min (upTo x.length q) x.length)+1,ln s.stack)],last:=s.last }else none)
 else if ch="\\"/\s.p+1<q then(signAt x (s.p+1)).bind λd=>some { s with p:=s.p+1+1,last:=if d=nlT then s.last else ch++d }
 else none
def qIf(x:Str)(q:Int)(s:S2):Option (Bool×S2):=if s.stack.length>1000\/s.brk.length>1000 then none else(reAt chewC x [s.p,q]).bind λr=>match r with
 |some m=>(yV x s.p 1000 ((m.2:Nat)-1)).bind λi =>
  (if i≥s.p then signAt x i else some s.last).bind λl =>
   if((m.2:Nat):Int)≥q then some (true,{ s with p:=(m.2:Nat),last:=l })else(xR x q { s with p:=(m.2:Nat),last:=l }).map λs=>(false,s)
 |none=>(xR x q s).map λs=>(false,s)
def wC(x:Str)(q:Int):Nat->S2->Option S2
 |0,_=>none
 |n+1,s=>if s.p<q then(qIf x q s).bind λr=>if r.1=true then some r.2 else wC x q n r.2 else some s
noncomputable def zNt(o:Option S2):Option S2:=o.bind λs=>if s.stack.length<=1000/\s.brk.length<=1000 then some s else none
structure R2 where
 a:Int
 b:Int
 s:S2
def readF(x:Str)(a b:Int):Option R2:=(zNt (wC x b 1000 ⟨a,[],[(a,0)],""⟩)).map λs=>⟨a,b,s⟩
def xF(x:Str)(gl:Ln):Option R2:=if gl.length=0\/gl.length>1000 then none else(stmtF x gl 1000 (gl.length-1) (x.length:Nat) 0).bind λr =>
 if r.1=0 then(if r.2.1=0 then readF x r.2.1 r.2.1 else none)else readF x r.2.1 r.2.2
def uL(x:Str):Nat->Int->Int->Option (Option (Int×Int))
 |0,_,_=>none
 |n+1,i,j=>if j<(x.length:Nat)then(reAt itemC x [j]).bind λr=>match r with
   |some m=>some (some (i,(m.2:Nat)-1))
   |none=>uL x n (dF x nlT j+1) (dF x nlT j+1)
  else some none
def xO(x:Str):Nat->Int->Option Int
 |0,_=>none
 |n+1,j=>(signAt x j).bind λc=>if m6 " \t" c then xO x n (j+1)else some j
def zH(x:Str)(i j:Int):Str:=⟨(cut x.cps.toList (some i) (some j)).toArray⟩
def kZ(x:Str)(o:Int):Option (Str×Bool):=(uL x 1000 (rfindF x o+1) (o+1)).bind λr=>match r with
 |some m=>some (zH x m.1 m.2,false)
 |none=>(xO x 1000 (rfindF x o+1)).map λj=>(zH x (rfindF x o+1) j,true)
def qDa(x:Str)(b:Int):Nat->Int->Option Int
 |0,_=>none
 |n+1,j=>if j<b then(signAt x j).bind λc=>if m6 " \t" c=true then qDa x b n (j+1)else some j else some j
def qLh(x:Str)(a b:Int):Option Str:=(qDa x b 1000 a).map λj=>zH x a j
def eqF(x:Str)(i lev:Int)(ch:Str):Option Bool:=if lev=0/\ch="="then(if i=0 then some true else(signAt x (i-1)).map λc=>!Txt.contains "=<>!" c).bind λp=>if p=true then(signAt x (i+1)).map λd=>!(d.cps.toList == [61])else some false else some false
def bsF(x:Str)(e:Int):Nat->Int->Int->Option (Int×Bool)
 |0,_,_=>none
 |n+1,i,lev=>if i<e then(signAt x i).bind λch =>
   if m6 "([{" ch then bsF x e n (i+1) (lev+1)
   else if m6 ")]}" ch then bsF x e n (i+1) (if lev=0 then lev else lev-1)
   else if ch="\""\/ch="'"then(reAt stringC x [i,e]).bind λr=>r.bind λm=>bsF x e n (m.2:Nat) lev
   else if ch="#"then some (i,false)
   else(eqF x i lev ch).bind λt=>if t then some (i,true)else bsF x e n (i+1) lev
  else some (i,false)
def yR(x:Str):Nat->Int->Option Int
 |0,_=>none
 |n+1,i=>(signAt x i).bind λc=>if m6 " \t\n" c then some i else yR x n (i+1)
def qBw(x:Str)(e i:Int)(f:Bool):Option (Int×Bool):=if f then(reAt bs7C (zH x (i+1) e) []).map λm=>(i+1,m.isNone)else some (i,false)
def uU(x:Str)(a:Int):Option Str:=(xO x 1000 a).bind λsp=>(bsF x (dF x nlT sp+1) 1000 sp 0).bind λr=>(qBw x (dF x nlT sp+1) r.1 r.2).bind λu =>
 (if u.2 then some u.1 else yR x 1000 sp).map λi=>zH x a i
noncomputable def rfB:S:=.seq (.a "p" (qf (.m "code" "rfind" (.cons (.str "\n") (.cons (.int 0) (qc (.bin .Sub "p" (.int 1)))))) 1)) .nil
def w1B:S:=.seq (.assert "p") (.seq (.a "q" "p") (.seq (.each "nothing" (.call (.g "range") (.cons (.idx "goodlines" (.bin .Sub "i" (.int 1))) (qc (.idx "goodlines" "i")))) rfB) (.seq (.ite (.call (.g "_junkre") (.cons "code" (qc "p"))) (.seq (.a "i" (.bin .Sub "i" (.int 1))) .nil) (.seq .brk .nil)) .nil)))
noncomputable def zOr:S:=.seq (.a "i" (.bin .Sub "i" (.int 1))) .nil
def zKd:S:=(.loop 1000 (.and (.cmp .GtE "i" "p") (.cmp .In (.idx "code" "i") (.str " \t\n"))) zOr .nil)
def zQl:S:=.seq (.a "newp" (.m "m" "end" .nil)) (.seq (.a "i" (.bin .Sub "newp" (.int 1))) (.seq zKd (.seq (.ite (.cmp .GtE "i" "p") (.seq (.a "lastch" (.idx "code" "i")) .nil) .nil) (.seq (.a "p" "newp") (.seq (.ite (.cmp .GtE "p" "q") (.seq .brk .nil) .nil) .nil)))))
noncomputable def qPq:S:=.seq (.a "ch" (.idx "code" "p")) (.seq (.ite (.cmp .In "ch" (.str "([{")) (.seq (.expr (.call "push_stack" (qc "p"))) (.seq (.expr (.m "bracketing" "append" (qc (.tup (.cons "p" (qc (qd "stack"))))))) (.seq (.a "lastch" "ch") (.seq (.a "p" (qf "p" 1)) (.seq .cont .nil))))) .nil) (.seq (.ite (.cmp .In "ch" (.str ")]}")) (.seq (.ite "stack" (.seq (.delL "stack") .nil) .nil) (.seq (.a "lastch" "ch") (.seq (.a "p" (qf "p" 1)) (.seq (.expr (.m "bracketing" "append" (qc (.tup (.cons "p" (qc (qd "stack"))))))) (.seq .cont .nil))))) .nil) (.seq (.ite (.or (.cmp .Eq "ch" (.str "\"")) (.cmp .Eq "ch" (.str "'"))) (.seq (.expr (.m "bracketing" "append" (qc (.tup (.cons "p" (qc (qf (qd "stack") 1))))))) (.seq (.a "lastch" "ch") (.seq (.a "p" (.m (.call (.g "_match_stringre") (.cons "code" (.cons "p" (qc "q")))) "end" .nil)) (.seq (.expr (.m "bracketing" "append" (qc (.tup (.cons "p" (qc (qd "stack"))))))) (.seq .cont .nil))))) .nil) (.seq (.ite (.cmp .Eq "ch" (.str "#")) (.seq (.expr (.m "bracketing" "append" (qc (.tup (.cons "p" (qc (qf (qd "stack") 1))))))) (.seq (.a "p" (qf (.m "code" "find" (.cons (.str "\n") (.cons "p" (qc "q")))) 1)) (.seq (.assert (.cmp .Gt "p" (.int 0))) (.seq (.expr (.m "bracketing" "append" (qc (.tup (.cons "p" (qc (qd "stack"))))))) (.seq .cont .nil))))) .nil) (.seq (.assert (.cmp .Eq "ch" (.str "\\"))) (.seq (.a "p" (qf "p" 1)) (.seq (.assert (.cmp .Lt "p" "q")) (.seq (.ite (.cmp .NotEq (.idx "code" "p") (.str "\n")) (.seq (.a "lastch" (.bin .Add "ch" (.idx "code" "p"))) .nil) .nil) (.seq (.a "p" (qf "p" 1)) .nil)))))))))
def w2B:S:=.seq (.a "m" (.call (.g "_chew_ordinaryre") (.cons "code" (.cons "p" (qc "q"))))) (.seq (.ite "m" zQl .nil) qPq)
def w1L:S:=(.loop 1000 "i" w1B .nil)
def w2L:S:=(.loop 1000 (.cmp .Lt "p" "q") w2B .nil)
noncomputable def qYy:S:=.seq (.setA "self" "lastch" "lastch") (.seq (.setA "self" "lastopenbracketpos" (.ite "stack" (.idx "stack" (.neg (.int 1))) .none)) (.seq (.setA "self" "stmt_bracketing" (.call (.g "tuple") (qc "bracketing"))) .nil))
def qYx:S:=.seq (.ite (.cmp .Eq "i" (.int 0)) (.seq (.assert (.cmp .Eq "p" (.int 0))) (.seq (.a "q" "p") .nil)) .nil) (.seq (.setA2 "self" "stmt_start" "self" "stmt_end" (.tup (.cons "p" (qc "q")))) (.seq (.a "lastch" (.str "")) (.seq (.own "stack" (.list .nil)) (.seq (.a "push_stack" (.attr "stack" "append")) (.seq (.own "bracketing" (.list (qc (.tup (.cons "p" (.cons (.int 0) .nil)))))) (.seq w2L qYy))))))
theorem qEm:yX=(.seq (.ite (.cmp .GtE (qe "study_level") (.int 2)) (.seq .ret0 .nil) .nil) (.seq (.expr (.m "self" "_study1" .nil)) (.seq (.setA "self" "study_level" (.int 2)) (.seq (.asg2 "code" "goodlines" (.tup (.cons (qe "code") (qc (qe "goodlines"))))) (.seq (.a "i" (.bin .Sub (qd "goodlines") (.int 1))) (.seq (.a "p" (qd "code")) (.seq w1L qYx))))))):=rfl
theorem bT:Bx (G09 pp) (T pp n):=qDs n
theorem zDo:∀n,(T pp n).app (.top (.type i)) args H=tapp i args H
 |0=>rfl
 |1=>rfl
 |_+2=>rfl
theorem qMa:tapp "range" args H=qCq args H:=ax rfl rfl
theorem zMm:qCq [.int a,.int b] H=if Builtin.Range.small a b 1 then okH (.rng a b 1) H else .bad:=rfl
theorem qLz:tapp "tuple" [v] H=qWy v H:=by refine bc pi (ax rfl ?_);rfl
theorem xX(B:Bx (G09 pp) cx)(hm:strMeth m=some i):cx.get (.str o) m H=some (.top (.builtin i),[.str o]):=by rw[B.get];obtain e:getV (G09 pp) (.str o) m H=(strMeth m).map λi=>(V.top (.builtin i),[V.str o]):=rfl;rw[e,hm];rfl
theorem zHe:strMeth "rfind"=some "str.rfind":= by rfl
theorem zAr:strMeth "find"=some "str.find":= by rfl
theorem qOz{d:V}:bapp "str.rfind" [a,b,d,e] H=vI jI a b d e H:=rfl
theorem qPa{d:V}:bapp "str.find" [a,b,d,e] H=vI kF a b d e H:=rfl
theorem zDj:bapp "re.Match.end" [a] H=zIt a H:=rfl
theorem qPe{code:Array Nat}(h:qIy b=some code):∀n,(T pp n).app (.top (.ref b)) args H=qAd code args H
 |0=>by show((G09 pp).rx b).elim _ _=_;rw[show(G09 pp).rx b=some code from h];rfl
 |1=>by show((G09 pp).rx b).elim _ _=_;rw[show(G09 pp).rx b=some code from h];rfl
 |_+2=>by show((G09 pp).rx b).elim _ _=_;rw[show(G09 pp).rx b=some code from h];rfl
theorem qPj(hc:σ.l.lookup ("code":Str)=some (.str x))(u:ev (T pp n).c e σ=.ok (.int i) σ):ev (T pp n).c (.m "code" "rfind" (.cons (.str "\n") (.cons (.int 0) (.cons e .nil)))) σ=.ok (.int (rfindF x i)) σ :=
 qR (σ':=⟨σ.h,[],[]⟩) (qB hc) (xX bT zHe) (qE rfl (qE rfl (qE u rfl))) (by
  rw[bT.bl]
  show bapp "str.rfind" [.str x,.str "\n",.int 0,.int i] _=_
  rw[qOz];rfl)
set_option tactic.hygienic true in
theorem wV{code:Array Nat}(h:(if uD u then qS code x.cps (min (xV u).toNat x.cps.size) (min (xW u).toNat x.cps.size)else none)=some r):kR code x u H=okH (mtV r) H:=by
 unfold kR;split at h
 .rename_i D;rw[d3 D,h];rfl
 .exact nomatch h
theorem zJx{code:Array Nat}(hg:zHu u=some (.top (.ref b)))(I:qIy b=some code)(hc:σ.l.lookup ("code":Str)=some (.str x))(D:ev (T pp n).c e σ=.ok (.int i) σ)(F:reAt code x [i]=some r):ev (T pp n).c (.call (.g u) (.cons "code" (.cons e .nil))) σ=.ok (mtV r) σ :=
 zJ (σ':=⟨σ.h,[],[]⟩) (qQ (by rw[bT.gl];exact hg)) (qE (qB hc) (qE D rfl)) (by
  rw[qPe I]
  show kR code x [i] σ.h=_
  rw[wV F];rfl)
theorem qWm{code:Array Nat}(hg:zHu u=some (.top (.ref b)))(J:qIy b=some code)(hc:σ.l.lookup ("code":Str)=some (.str x))(F:ev (T pp n).c e σ=.ok (.int i) σ)(D:ev (T pp n).c f σ=.ok (.int l) σ)(I:reAt code x [i,l]=some r):ev (T pp n).c (.call (.g u) (.cons "code" (.cons e (.cons f .nil)))) σ=.ok (mtV r) σ :=
 zJ (σ':=⟨σ.h,[],[]⟩) (qQ (by rw[bT.gl];exact hg)) (qE (qB hc) (qE F (qE D rfl))) (by
  rw[qPe J]
  show kR code x [i,l] σ.h=_
  rw[wV I];rfl)
theorem qLt:truV H (mtV r)=some r.isSome:=by cases r <;> rfl
theorem qPo(u:ev (T pp n).c z σ=.ok (.mt p e) σ):ev (T pp n).c (.m z "end" .nil) σ=.ok (.int (e:Nat)) σ :=
 qR (σ':=⟨σ.h,[],[]⟩) (vf:=.top (.builtin "re.Match.end")) (first:=[.mt p e]) (xs:=[]) u (by rw[bT.get];rfl) rfl (by
  rw[bT.bl]
  show bapp "re.Match.end" [.mt p e] _=_
  rw[zDj];rfl)
set_option tactic.hygienic true in
theorem kN{z:Str}(hc:σ.l.lookup ("code":Str)=some (.str x))(F:ev (T pp n).c e σ=.ok (.int i) σ)(hs:signAt x i=some c):ev (T pp n).c (.idx "code" e) σ=.ok (.str c) σ:=by
 refine kC (qB hc) F ?_;unfold signAt at hs;split at hs
 .rename_i D;refine qa hs λa h1 u=>?_;subst u;have:idxV σ.h (.str x) (.int i)=((seqIndex? i x.length).bind (x.cps[·]?)).elim .bad λc=>.ok (.str ⟨#[c]⟩):=d3 D;rw[this,h1];rfl
 .cases hs
theorem qId(u:ev (T pp n).c a σ=.ok (.str y) σ)(D:ev (T pp n).c b σ=.ok (.str z) σ):ev (T pp n).c (.cmp .In a b) σ=.ok (.bool (m6 z y)) σ:=kD u D rfl
theorem zAg(u:H.o j=some (.list (natsV gl)))(hi:i<=1000)(h:gl[i]?=some a):idxV H (.ref j) (.int (i:Nat))=.ok (.int (a:Nat)):=by
 refine vT (xs:=natsV gl) (j:=i) rfl ?_ (kS (by simp) (rO rfl rfl hi)) (jH ?_) ?_
 .show(match H.o j with|some (.list xs)=>some xs|_=>none)=_;rw[u]
 .unfold natsV;rw[m8];exact(List.getElem?_eq_some_iff.mp h).1
 .unfold natsV;rw[mR,h];rfl
structure A1(x:Str)(k j:Nat)(H:Hp)(i:Nat)(p:Int)(σ:St):Prop where
 self:σ.l.lookup ("self":Str)=some (.ref k)
 code:σ.l.lookup ("code":Str)=some (.str x)
 good:σ.l.lookup ("goodlines":Str)=some (.ref j)
 i:σ.l.lookup ("i":Str)=some (.int (i:Nat))
 p:σ.l.lookup ("p":Str)=some (.int p)
 hp:σ.h=H
theorem A1.setp{i:Nat}{p:Int}(h:A1 x k j H i p σ):A1 x k j H i u (σ.set "p" (.int u)):=⟨zX2 h.self,zX2 h.code,zX2 h.good,zX2 h.i,qD,h.hp⟩
theorem A1.seti{i:Nat}{p v:Int}(h:A1 x k j H i p σ)(e:v=(i':Nat)):A1 x k j H i' p (σ.set "i" (.int v)):=by subst e;exact⟨zX2 h.self,zX2 h.code,zX2 h.good,qD,zX2 h.p,h.hp⟩
theorem A1.oth{i:Nat}{p:Int}(h:A1 x k j H i p σ):A1 x k j H i p (σ.set "nothing" v):=⟨zX2 h.self,zX2 h.code,zX2 h.good,zX2 h.i,zX2 h.p,h.hp⟩
theorem A1.setq{i:Nat}{p:Int}(h:A1 x k j H i p σ):A1 x k j H i p (σ.set "q" v):=⟨zX2 h.self,zX2 h.code,zX2 h.good,zX2 h.i,zX2 h.p,h.hp⟩
theorem zDk{q:Int}(h:A1 x k j H i p σ)(I:σ.l.lookup ("q":Str)=some (.int q))(D:ev (T pp n).c it σ=.ok (.rng (a:Nat) (b:Nat) 1) σ):Gd (ex (.each "nothing" it rfB) (T pp n) σ) λf σ'=>f=.next/\A1 x k j H i (back x (j5 (a:Nat) (b:Nat) 1).toNat p) σ'/\σ'.l.lookup ("q":Str)=some (.int q):=by
 generalize hm:(j5 (a:Nat) (b:Nat) 1).toNat=m;refine zIb D (xs:=(rD m).map λ(i:Nat)=>V.int ((a:Nat)+(i:Int)*1)) (by rw[<- hm];rfl) (λl σ=>∃u,A1 x k j H i u σ/\back x l.length u=back x m p/\σ.l.lookup ("q":Str)=some (.int q)) ⟨p,h,by rw[m8,List.length_range],I⟩ (λl σ z=>by rw[<- hm];rfl) ?_ ?_
 .rintro y r σ ⟨u,h',e,hq'⟩;obtain h2:=h'.oth (v:=y);obtain hq':=@qA σ "nothing" "q" y _ pi hq';generalize σ.set "nothing" y=σ at h2 hq' ⊢;refine gd_sasg (qO (qPj h2.code (kB (qB h2.p) rfl)) rfl) (qF ⟨_,h2.setp,e,zX2 hq'⟩)
 .rintro σ ⟨u,h',e,hq'⟩;have F:u=back x m p:=e;subst F;exact⟨rfl,h',hq'⟩
theorem qXq(L:H.o j=some (.list (natsV gl)))(I:gl.length<=1000){q:Int}(hi:i<gl.length)(h:A1 x k j H i p σ)(hs:stmtF x gl 1000 i p q=some r):Gd (ex w1L (T pp n) σ) λf σ'=>f=.next/\A1 x k j H r.1 r.2.1 σ'/\(r.1≠0->σ'.l.lookup ("q":Str)=some (.int r.2.2)):=by
 refine xJ (λfuel σ=>∃i p q,i<gl.length/\A1 x k j H i p σ/\stmtF x gl fuel i p q=some r) ⟨i,p,q,hi,h,hs⟩ ?_;rintro fuel σ ⟨i,p,q,hi,h,hs⟩;cases fuel with
 |zero=>cases hs
 |succ fuel =>
 refine⟨fuel,rfl,?_⟩;cases i with
 |zero =>subst hs;exact⟨_,σ,false,qB h.i,rfl,(λq=>by cases q),λz=>qF ⟨rfl,h,λq=>d9 rfl q⟩⟩
 |succ i =>
  refine⟨_,σ,true,qB h.i,?_,λz=>?_,(λq=>by cases q)⟩
  .congr 1
  have u:(if p=0 then none else(gl[i]?).bind λa=>(gl[i+1]?).bind λb=>if Builtin.Range.small (a:Nat) (b:Nat) 1=true then
   (reAt junkC x [back x (j5 (a:Nat) (b:Nat) 1).toNat p]).bind λr=>match r with
    |some _=>stmtF x gl fuel i (back x (j5 (a:Nat) (b:Nat) 1).toNat p) p
    |none=>some (i+1,back x (j5 (a:Nat) (b:Nat) 1).toNat p,p)
   else none)=some r:=hs
  by_cases hp:p=0
  .obtain u:=aw hp u;cases u
  replace u:=ao hp u;refine px u λa O u=>ae (pz u) λb S u=>?_;by_cases D:Builtin.Range.small (a:Nat) (b:Nat) 1=true
  .obtain u:=aw D u;refine px u λJ F u=>qG (qFq (qB h.p) (by show some (p != 0)=some true;rw[bne_iff_ne.mpr hp]) (gd_sasg (qB h.p) ?_));have N:=@qD σ "q" (.int p);replace h:=h.setq (v:=.int p);generalize σ.set "q" (.int p)=σ at h N ⊢;refine zA ((zDk h N (by
    refine zJ (σ':=⟨σ.h,[],[]⟩) (qQ (v:=.top (.type "range")) (by rw[bT.gl];rfl)) (qE (kC (qB h.good) (kB (qB h.i) rfl) (by rw[(by simp:((i+1:Nat):Int)-1=(i:Nat)),h.hp];exact zAg L (jy I hi) O)) (qE (kC (qB h.good) (qB h.i) (by rw[h.hp];exact zAg L (b7 (m9 hi) I) S)) rfl)) ?_
    rw[zDo,qMa,zMm,d3 D];rfl)).mono ?_)
   rintro f σ' ⟨rfl,h',hq'⟩;generalize back x (j5 (a:Nat) (b:Nat) 1).toNat p=p' at h' F u ⊢;refine zA (jP (zJx (b:=79) (code:=junkC) (by rfl) (by rfl) h'.code (qB h'.p) F) qLt (λe=>?_) λe=>?_)
   .cases J with
    |none=>cases e
    |some m =>exact gd_sasg (kB (qB h'.i) rfl) (qF (qF ⟨i,p',p,m9 hi,h'.seti (by simp),u⟩))
   .cases J with
    |some m=>cases e
    |none =>subst u;exact qG (gd_brk ⟨rfl,h',λz=>hq'⟩)
  .replace u:=ao D u;cases u
section
variable{pp:dQ}{n k d j js jb:Nat}{H:Hp}{σ:St}{Q:Fl->St->Prop}{x:Str}{q:Int}{s:S2}{fs:Flds}{iw tw:Int}{c g m:Nat}{p:Int}
theorem qBb:bapp "list.append" [a,b] H=zT a b H:=rfl
theorem qGc(h:H.o j=some (.list xs)):bapp "len" [.ref j] H=okH (.int (xs.length:Nat)) H:=by
 rw[wL];show(asList H (.ref j)).elim Rs.bad _=_;have:asList H (.ref j)=some xs:=by show asO (H.o j)=_;rw[h];rfl
 rw[this];rfl
theorem qKg(B:Bx (G09 pp) cx){m:Str}(h:H.o j=some (.list xs))(hm:uJ m=some i):cx.get (.ref j) m H=some (.top (.builtin i),[.ref j]):=by rw[B.get];show zHv (G09 pp) j m H=_;unfold zHv;rw[qFm h];show((asO (H.o j)).map λxs=>(j,xs)).bind _=_;rw[h];rw[hm];rfl
theorem qAq:uJ "append"=some "list.append":= ax rfl rfl
noncomputable def intsV(l:List Int):List V:=l.map .int
noncomputable def brkV(l:List (Int×Int)):List V:=l.map λp=>.tup [.int p.1,.int p.2]
def xH(H:Hp)(js jb:Nat)(st:List Int)(br:List (Int×Int)):Hp:=hput (hput H js (.list (intsV st))) jb (.list (brkV br))
theorem qBr{st:List Int}(h:js≠jb):(xH H js jb st br).o js=some (.list (intsV st)):=(qX h).trans vA
theorem qQx{st:List Int}:(xH H js jb st br).o jb=some (.list (brkV br)):=vA
theorem qDl{st:List Int}(h:js≠jb):hput (xH H js jb st br) js (.list (intsV u))=xH H js jb u br:=by
 refine g0 (λo=>Hp.mk o H.n) (funext λi=>?_);show(if i=js then some (O.list (intsV u))else if i=jb then some (O.list (brkV br))else if i=js then some (O.list (intsV st))else H.o i)=if i=jb then some (O.list (brkV br))else if i=js then some (O.list (intsV u))else H.o i;by_cases h1:i=js
 .subst h1;rw[d3 rfl,b6 h,d3 rfl]
 .rw[b6 h1,b6 h1,b6 h1]
theorem qNz{st:List Int}:hput (xH H js jb st br) jb (.list (brkV u))=xH H js jb st u:=qKe
structure A2(x:Str)(k js jb:Nat)(H:Hp)(q:Int)(s:S2)(σ:St):Prop where
 self:σ.l.lookup ("self":Str)=some (.ref k)
 code:σ.l.lookup ("code":Str)=some (.str x)
 p:σ.l.lookup ("p":Str)=some (.int s.p)
 q:σ.l.lookup ("q":Str)=some (.int q)
 last:σ.l.lookup ("lastch":Str)=some (.str s.last)
 stack:σ.l.lookup ("stack":Str)=some (.ref js)
 push:σ.l.lookup ("push_stack":Str)=some (.bnd js)
 brk:σ.l.lookup ("bracketing":Str)=some (.ref jb)
 hp:σ.h=xH H js jb s.stack s.brk
noncomputable def zMu:List Str:=["self","code","p","q","lastch","stack","push_stack","bracketing"]
noncomputable def zAh:List Str:=["m","newp","i","ch"]
theorem zJj:∀y∈zAh,∀z∈zMu,(z==y)=false:=pw
theorem A2.oth(h:A2 x k js jb H q s σ)(u:y∈zAh):A2 x k js jb H q s (σ.set y v):=by obtain a:=zJj y u;exact⟨qA (a _ pi) h.self,qA (a _ pi) h.code,qA (a _ pi) h.p,qA (a _ pi) h.q,qA (a _ pi) h.last,qA (a _ pi) h.stack,qA (a _ pi) h.push,qA (a _ pi) h.brk,h.hp⟩
theorem A2.setp(h:A2 x k js jb H q s σ):A2 x k js jb H q { s with p:=v } (σ.set "p" (.int v)):=
 ⟨zX2 h.self,zX2 h.code,qD,zX2 h.q,zX2 h.last,zX2 h.stack,zX2 h.push,zX2 h.brk,h.hp⟩
theorem A2.setl(h:A2 x k js jb H q s σ):A2 x k js jb H q { s with last:=v } (σ.set "lastch" (.str v)):=
 ⟨zX2 h.self,zX2 h.code,zX2 h.p,zX2 h.q,qD,zX2 h.stack,zX2 h.push,zX2 h.brk,h.hp⟩
theorem A2.sets(h:A2 x k js jb H q s σ){st:List Int}:A2 x k js jb H q { s with stack:=st } { σ with h:=xH H js jb st s.brk }:=⟨h.self,h.code,h.p,h.q,h.last,h.stack,h.push,h.brk,rfl⟩
theorem A2.setb(h:A2 x k js jb H q s σ):A2 x k js jb H q { s with brk:=br } { σ with h:=xH H js jb s.stack br }:=⟨h.self,h.code,h.p,h.q,h.last,h.stack,h.push,h.brk,rfl⟩
theorem qDv(h:H.o j=some (.list xs))(u:xs.length<=2000):zT (.ref j) v H=okH .none (hput H j (.list (xs++[v]))):=yQ h (ed u pi)
theorem wN(u:js≠jb)(h:A2 x k js jb H q s σ):ev (T pp n).c (qd "stack") σ=.ok (.int (ln s.stack)) σ :=
 zJ (σ':=⟨σ.h,[],[]⟩) (qQ (qAg bT)) (qE (qB h.stack) rfl) (by
  rw[bT.bl,qGc (by rw[h.hp];exact qBr u)]
  unfold intsV;rw[m8];rfl)
theorem gd_brk(h:A2 x k js jb H q s σ)(D:s.brk.length<=1001)(F:ev (T pp n).c a σ=.ok (.int v) σ)(u:ev (T pp n).c b σ=.ok (.int w) σ)(hk:A2 x k js jb H q { s with brk:=s.brk++[(v,w)] } { σ with h:=xH H js jb s.stack (s.brk++[(v,w)]) }->Gd (ex r (T pp n) { σ with h:=xH H js jb s.stack (s.brk++[(v,w)]) }) Q):Gd (ex (.seq (.expr (.m "bracketing" "append" (qc (.tup (.cons a (.cons b .nil)))))) r) (T pp n) σ) Q:=by
 obtain ho:σ.h.o jb=some (.list (brkV s.brk)):=by rw[h.hp];exact qQx
 exact zC (qR (qB h.brk) (qKg bT ho qAq) (qE (qAo (qE F (qE u rfl)) (by show 2<=j0;decide)) rfl) (by
  rw[bT.bl]
  show bapp "list.append" [.ref jb,.tup [.int v,.int w]] _=_
  rw[qBb,qDv ho (by unfold brkV;rw[m8];exact b7 D pi),h.hp]
  rw[(by unfold brkV;rw[fD];rfl:brkV s.brk++[.tup [.int v,.int w]]=brkV (s.brk++[(v,w)])),qNz]:(T pp n).app (.top (.builtin "list.append")) ([.ref jb]++[.tup [.int v,.int w]]) σ.h=okH .none (xH H js jb s.stack (s.brk++[(v,w)])))) (hk h.setb)
theorem zHy(u:js≠jb)(h:A2 x k js jb H q s σ)(D:s.stack.length<=1000)(hk:A2 x k js jb H q { s with stack:=s.stack++[s.p] } { σ with h:=xH H js jb (s.stack++[s.p]) s.brk }->Gd (ex r (T pp n) { σ with h:=xH H js jb (s.stack++[s.p]) s.brk }) Q):Gd (ex (.seq (.expr (.call "push_stack" (qc "p"))) r) (T pp n) σ) Q:=zC (zJ (qB h.push) (qE (qB h.p) rfl) (by
  rw[bT.bd,qDv (by rw[h.hp];exact qBr u) (by unfold intsV;rw[m8];exact b7 D pi),h.hp]
  rw[(by unfold intsV;rw[fD];rfl:intsV s.stack++[.int s.p]=intsV (s.stack++[s.p])),qDl u]:(T pp n).app (.bnd js) [.int s.p] σ.h=okH .none (xH H js jb (s.stack++[s.p]) s.brk))) (hk h.sets)
theorem qWz{i i':Int}(h:A2 x k js jb H q s σ)(hi:σ.l.lookup ("i":Str)=some (.int i))(I:yV x s.p 1000 i=some i'){w:V}(F:σ.l.lookup ("newp":Str)=some w):Gd (ex zKd (T pp n) σ) λf σ'=>f=.next/\A2 x k js jb H q s σ'/\σ'.l.lookup ("i":Str)=some (.int i')/\σ'.l.lookup ("newp":Str)=some w:=by
 refine xJ (λfuel σ=>∃i,A2 x k js jb H q s σ/\σ.l.lookup ("i":Str)=some (.int i)/\yV x s.p fuel i=some i'/\σ.l.lookup ("newp":Str)=some w) ⟨i,h,hi,I,F⟩ ?_;rintro fuel σ ⟨i,h,hi,I,F⟩;cases fuel with
 |zero=>cases I
 |succ fuel =>
 refine⟨fuel,rfl,?_⟩;have u:(if i≥s.p then(signAt x i).bind λc=>if m6 " \t\n" c=true then yV x s.p fuel (i-1)else some i else some i)=some i':=I;by_cases D:i≥s.p
 .replace u:=aw D u;obtain⟨c,hc,u⟩:=pz u;refine⟨_,σ,m6 " \t\n" c,vK (p:=decide (i≥s.p)) (jV (qB hi) (qB h.p)) λy=>qId (kN (z:="") h.code (qB hi) hc) rfl,?_,λe=>?_,λe=>?_⟩
  .rw[e9 D];rfl
  .obtain u:=aw e u;exact gd_sasg (kB (qB hi) rfl) (qF ⟨i-1,h.oth pi,qD,u,zX2 F⟩)
  .replace u:=ao (by rw[e];decide) u;subst u;exact qF ⟨rfl,h,hi,F⟩
 .replace u:=ao D u;clear I;cases u;refine⟨_,σ,false,vK (p:=decide (i'≥s.p)) (q:=true) (jV (qB hi) (qB h.p)) (λe=>d9 (j6 e) D),?_,(λe=>by cases e),λy=>qF ⟨rfl,h,hi,F⟩⟩;rw[k9 D];rfl
theorem zKf{a b:Str}:(a.cps.toList==b.cps.toList)=decide (a=b):=by
 by_cases h:a=b
 .subst h;rw[e9 rfl,gE]
 .rw[k9 h];refine beq_eq_false_iff_ne.mpr λe=>h ?_;cases a;cases b;exact g0 Str.mk (Array.toList_inj.mp e)
theorem qPn(u:ev cx a σ=.ok (.str y) σ)(D:ev cx b σ=.ok (.str z) σ):ev cx (.cmp .Eq a b) σ=.ok (.bool (decide (y=z))) σ:=by rw[jW u D,zKf]
theorem zOo(u:ev cx a σ=.ok (.str y) σ)(D:ev cx b σ=.ok (.str z) σ):ev cx (.cmp .NotEq a b) σ=.ok (.bool (!decide (y=z))) σ:=by simp only[zJy u D,bne,zKf]
theorem zEc(hc:σ.l.lookup ("code":Str)=some (.str x))(u:ev (T pp n).c a σ=.ok (.int i) σ)(D:ev (T pp n).c b σ=.ok (.int l) σ):ev (T pp n).c (.m "code" "find" (.cons (.str "\n") (.cons a (.cons b .nil)))) σ=.ok (.int (kF x nlT (upTo x.length i) (min (upTo x.length l) x.length))) σ :=
 qR (σ':=⟨σ.h,[],[]⟩) (qB hc) (xX bT zAr) (qE rfl (qE u (qE D rfl))) (by
  rw[bT.bl]
  show bapp "str.find" [.str x,.str "\n",.int i,.int l] _=_
  rw[qPa];rfl)
def AtS(x:Str)(k js jb:Nat)(H:Hp)(q:Int)(s:S2):Fl->St->Prop:=λf σ'=>(f=.cont\/f=.next)/\A2 x k js jb H q s σ'
theorem zAd(u:js≠jb)(h:A2 x k js jb H q s σ)(h1:s.stack.length<=1000)(h2:s.brk.length<=1000)(hc:σ.l.lookup ("ch":Str)=some (.str ch)):Gd (ex (.seq (.expr (.call "push_stack" (qc "p"))) (.seq (.expr (.m "bracketing" "append" (qc (.tup (.cons "p" (qc (qd "stack"))))))) (.seq (.a "lastch" "ch") (.seq (.a "p" (qf "p" 1)) (.seq .cont .nil))))) (T pp n) σ) (qDw r (T pp n) (AtS x k js jb H q { p:=s.p+1,stack:=s.stack++[s.p],brk:=s.brk++[(s.p,ln (s.stack++[s.p]))],last:=ch })):=by
 refine zHy u h h1 λh=>gd_brk h (m3 h2) (qB h.p) (wN u h) λh=>gd_sasg (qB hc) ?_;obtain h':=h.setl (v:=ch);exact gd_sasg (qO (qB h'.p) rfl) (qG (uO ⟨.inl rfl,h'.setp⟩))
theorem zGq(u:js≠jb)(h:A2 x k js jb H q s σ){hc:Prop}(hk:∀σ',A2 x k js jb H q { s with stack:=s.stack.dropLast } σ'->σ'.l=σ.l->Gd (ex r (T pp n) σ') Q):Gd (ex (.seq (.ite "stack" (.seq (.delL "stack") .nil) .nil) r) (T pp n) σ) Q:=by
 have D:σ.h.o js=some (.list (intsV s.stack)):=by rw[h.hp];exact qBr u
 refine zA (jP (qB h.stack) (by
  show(asList σ.h (.ref js)).map _=_
  have:asList σ.h (.ref js)=some (intsV s.stack):=by
   show(match σ.h.o js with|some (.list xs)=>some xs|_=>none)=_
   rw[D]
  rw[this];rfl) (λe=>?_) λe=>?_)
 .cases hs:s.stack with
  |nil=>rw[hs]at e;cases e
  |cons a l =>
   rw[hs]at D;refine qG (zIc (y:=.int a) (ys:=intsV l) h.stack D (qF (hk _ ?_ rfl)));obtain e2:({ σ with o:=λj=>if j=js then some (.list (V.int a::intsV l).dropLast)else σ.o j }:St)={ σ with h:=xH H js jb s.stack.dropLast s.brk }:=by
    rw[<- (by
     rw[h.hp,hs]
     rw[(by
      show(intsV (a::l)).dropLast=_
      unfold intsV;rw[List.map_dropLast]:(V.int a::intsV l).dropLast=intsV (a::l).dropLast),qDl u]:hput σ.h js (.list (V.int a::intsV l).dropLast)=xH H js jb s.stack.dropLast s.brk)];rfl
   rw[e2];exact h.sets
 .have hs:s.stack=[]:=by
   cases hs:s.stack with
   |nil=>rfl
   |cons a l=>rw[hs]at e;cases e
  refine qF (hk _ ?_ rfl);have:s.stack.dropLast=s.stack:=by rw[hs];rfl
  rw[this];exact h
theorem qVq(u:js≠jb)(h:A2 x k js jb H q s σ)(h2:s.brk.length<=1000)(hc:σ.l.lookup ("ch":Str)=some (.str ch)):Gd (ex (.seq (.ite "stack" (.seq (.delL "stack") .nil) .nil) (.seq (.a "lastch" "ch") (.seq (.a "p" (qf "p" 1)) (.seq (.expr (.m "bracketing" "append" (qc (.tup (.cons "p" (qc (qd "stack"))))))) (.seq .cont .nil))))) (T pp n) σ) (qDw r (T pp n) (AtS x k js jb H q { p:=s.p+1,stack:=s.stack.dropLast,brk:=s.brk++[(s.p+1,ln s.stack.dropLast)],last:=ch })):=by
 refine zGq (hc:=True) u h λσ' h e=>gd_sasg (qB (by rw[e];exact hc)) ?_;obtain h:=h.setl (v:=ch);refine gd_sasg (qO (qB h.p) rfl) ?_;obtain h:=h.setp (v:=s.p+1);exact gd_brk h (m3 h2) (qB h.p) (wN u h) λh=>qG (uO ⟨.inl rfl,h⟩)
theorem qUf{m:Nat×Nat}(u:js≠jb)(h:A2 x k js jb H q s σ)(h2:s.brk.length<=1000)(hc:σ.l.lookup ("ch":Str)=some (.str ch))(D:reAt stringC x [s.p,q]=some (some m)):Gd (ex (.seq (.expr (.m "bracketing" "append" (qc (.tup (.cons "p" (qc (qf (qd "stack") 1))))))) (.seq (.a "lastch" "ch") (.seq (.a "p" (.m (.call (.g "_match_stringre") (.cons "code" (.cons "p" (qc "q")))) "end" .nil)) (.seq (.expr (.m "bracketing" "append" (qc (.tup (.cons "p" (qc (qd "stack"))))))) (.seq .cont .nil))))) (T pp n) σ) (qDw r (T pp n) (AtS x k js jb H q { p:=(m.2:Nat),stack:=s.stack,brk:=s.brk++[(s.p,ln s.stack+1)]++[(((m.2:Nat):Int),ln s.stack)],last:=ch })):=by
 refine gd_brk h (m3 h2) (qB h.p) (qO (wN u h) rfl) λh=>gd_sasg (qB hc) ?_;obtain h:=h.setl (v:=ch);refine gd_sasg (qPo (p:=m.1) (e:=m.2) (qWm (b:=80) (code:=stringC) (by rfl) (by rfl) h.code (qB h.p) (qB h.q) D)) ?_;obtain h:=h.setp (v:=((m.2:Nat):Int));exact gd_brk h (by rw[g8];exact n9 h2) (qB h.p) (wN u h) λh=>qG (uO ⟨.inl rfl,h⟩)
theorem zBm{ch:Str}(hv:kF x nlT (upTo x.length s.p) (min (upTo x.length q) x.length)+1=v)(D:v>0)(u:js≠jb)(h:A2 x k js jb H q s σ)(h2:s.brk.length<=1000):Gd (ex (.seq (.expr (.m "bracketing" "append" (qc (.tup (.cons "p" (qc (qf (qd "stack") 1))))))) (.seq (.a "p" (qf (.m "code" "find" (.cons (.str "\n") (.cons "p" (qc "q")))) 1)) (.seq (.assert (.cmp .Gt "p" (.int 0))) (.seq (.expr (.m "bracketing" "append" (qc (.tup (.cons "p" (qc (qd "stack"))))))) (.seq .cont .nil))))) (T pp n) σ) (qDw r (T pp n) (AtS x k js jb H q { p:=v,stack:=s.stack,brk:=s.brk++[(s.p,ln s.stack+1)]++[(v,ln s.stack)],last:=s.last })):=by
 refine gd_brk h (m3 h2) (qB h.p) (qO (wN u h) rfl) λh=>gd_sasg (qO (zEc h.code (qB h.p) (qB h.q)) rfl) ?_;rw[hv];obtain h:=h.setp (v:=v);refine qT ?_ ?_
 .rw[qWp (qB h.p) rfl,e9 (D)]
 exact gd_brk h (by rw[g8];exact n9 h2) (qB h.p) (wN u h) λh=>qG (uO ⟨.inl rfl,h⟩)
theorem qTj(D:ch.length+e.length<=j0)(h:A2 x k js jb H q s σ)(hc:σ.l.lookup ("ch":Str)=some (.str ch))(I:ch="\\")(J:s.p+1<q)(L:signAt x (s.p+1)=some e):Gd (ex (.seq (.assert (.cmp .Eq "ch" (.str "\\"))) (.seq (.a "p" (qf "p" 1)) (.seq (.assert (.cmp .Lt "p" "q")) (.seq (.ite (.cmp .NotEq (.idx "code" "p") (.str "\n")) (.seq (.a "lastch" (.bin .Add "ch" (.idx "code" "p"))) .nil) .nil) (.seq (.a "p" (qf "p" 1)) .nil))))) (T pp n) σ) (AtS x k js jb H q { s with p:=s.p+1+1,last:=if e=nlT then s.last else ch++e }):=by
 refine qT ?_ ?_
 .rw[qPn (qB hc) rfl,e9 I]
 refine gd_sasg (qO (qB h.p) rfl) ?_;obtain h:=h.setp (v:=s.p+1);obtain hc:=@qA σ "p" "ch" (.int (s.p+1)) _ pi hc;generalize σ.set "p" (.int (s.p+1))=σ at h hc ⊢;refine qT ?_ ?_
 .rw[qBx (qB h.p) (qB h.q),e9 (J)]
 obtain hs:=kN (pp:=pp) (n:=n) (z:="") h.code (qB h.p) L;refine qN (zOo hs rfl) (λu=>?_) (λu=>?_)
 .have F:¬e=nlT:=λq=>by rw[e9 (show e="\n"from q)]at u;cases u
  rw[b6 F];refine gd_sasg (yS (qB hc) hs (d3 D)) ?_;obtain h:=h.setl (v:=ch++e);exact qF (gd_sasg (qO (qB h.p) rfl) (qF ⟨.inr rfl,h.setp⟩))
 .have F:e=nlT:=by
   by_cases q:e=nlT
   .exact q
   .rw[k9 (show¬e="\n"from q)]at u;cases u
  rw[d3 F];exact gd_sasg (qO (qB h.p) rfl) (qF ⟨.inr rfl,h.setp⟩)
theorem qIs{c:Str}(h:signAt x i=some c):c.length=1:=by
 unfold signAt at h;split at h
 .refine qa h λa q u=>?_;subst u;rfl
 .cases h
theorem qWw(D:js≠jb)(h:A2 x k js jb H q s σ)(h1:s.stack.length<=1000)(h2:s.brk.length<=1000)(u:xR x q s=some s'):Gd (ex qPq (T pp n) σ) (AtS x k js jb H q s'):=by
 refine px u λch hs u=>gd_sasg (kN (z:="") h.code (qB h.p) hs) ?_;obtain hc:=@qD σ "ch" (.str ch);obtain h:=h.oth (y:="ch") (v:=.str ch) pi;generalize σ.set "ch" (.str ch)=σ at h hc ⊢;refine qN (qId (qB hc) rfl) (λe=>?_) (λe=>?_)
 .replace u:=aw e u;subst u;exact zAd D h h1 h2 hc
 replace u:=ao (by rw[e];decide) u;refine qN (qId (qB hc) rfl) (λe=>?_) (λe=>?_)
 .replace u:=aw e u;subst u;exact qVq D h h2 hc
 replace u:=ao (by rw[e];decide) u;refine qN (qGl (p:=decide (ch="\"")) (q:=decide (ch="'")) (qPn (qB hc) rfl) λw=>qPn (qB hc) rfl) (λe=>?_) (λe=>?_)
 .replace u:=aw ((eS _ _▸e:_\/_).imp j6 j6) u;refine px u λr J u=>?_;cases r with
  |none=>cases u
  |some m =>subst u;exact qUf D h h2 hc J
 replace u:=ao (λq=>by
  rcases q with q|q
  .rw[e9 q]at e;cases e
  .rw[e9 q,Bool.or_true]at e;cases e) u
 refine qN (qPn (qB hc) rfl) (λe=>?_) (λe=>?_)
 .replace u:=aw (j6 e) u;by_cases hp:kF x nlT (upTo x.length s.p) (min (upTo x.length q) x.length)+1>0
  .replace u:=aw hp u;subst u;exact zBm (ch:=ch) rfl hp D h h2
  .replace u:=ao hp u;cases u
 replace u:=ao (w5 e) u;by_cases F:ch="\\"/\s.p+1<q
 .replace u:=aw F u;refine px u λe I u=>?_;subst u;exact qTj (by rw[qIs hs,qIs I];decide) h hc F.1 F.2 I
 .replace u:=ao F u;cases u
def AtT(x:Str)(k js jb:Nat)(H:Hp)(q:Int)(r:Bool×S2):Fl->St->Prop:=λf σ'=>(if r.1 then f=.brk else f=.cont\/f=.next)/\A2 x k js jb H q r.2 σ'
theorem zDc(L:js≠jb)(h:A2 x k js jb H q s σ)(u:qIf x q s=some r):Gd (ex w2B (T pp n) σ) (AtT x k js jb H q r):=by
 by_cases I:s.stack.length>1000\/s.brk.length>1000
 .replace u:=aw I u;cases u
 replace u:=ao I u;have h1:s.stack.length<=1000:=Nat.not_lt.mp λq=>I (.inl q);have h2:s.brk.length<=1000:=Nat.not_lt.mp λq=>I (.inr q);refine px u λm hm u=>?_;have plain:∀σ s,A2 x k js jb H q s σ->s.stack.length<=1000->s.brk.length<=1000->(xR x q s).map (λs=>(false,s))=some r->Gd (ex qPq (T pp n) σ) (AtT x k js jb H q r):=by intro σ s h h1 h2 u;refine qa u λs' e J=>?_;subst J;exact(qWw L h h1 h2 e).mono λf σ' w=>⟨w.1,w.2⟩
 refine gd_sasg (qWm (b:=83) (code:=chewC) (by rfl) (by rfl) h.code (qB h.p) (qB h.q) hm) ?_;have hv:=@qD σ "m" (mtV m);replace h:=h.oth (y:="m") (v:=mtV m) pi;generalize σ.set "m" (mtV m)=σ at h hv ⊢;refine zA (jP (qB hv) qLt (λe=>?_) λe=>?_)
 .cases m with
  |none=>cases e
  |some m =>
   refine px u λi hi u=>ae (pz u) λl F u=>gd_sasg (qPo (p:=m.1) (e:=m.2) (qB hv)) ?_;obtain D:=@qD σ "newp" (.int (m.2:Nat));obtain h:=h.oth (y:="newp") (v:=.int (m.2:Nat)) pi;generalize σ.set "newp" (.int (m.2:Nat))=σ at h D ⊢;refine gd_sasg (kB (qB D) rfl) ?_;obtain hiv:=@qD σ "i" (.int ((m.2:Nat)-1));obtain D:=@qA σ "i" "newp" (.int ((m.2:Nat)-1)) _ pi D;obtain h:=h.oth (y:="i") (v:=.int ((m.2:Nat)-1)) pi;generalize σ.set "i" (.int ((m.2:Nat)-1))=σ at h D hiv ⊢;refine zA ((qWz h hiv hi D).mono ?_);rintro f σ ⟨rfl,h,hiv,D⟩;have last:∀σ,A2 x k js jb H q { s with last:=l } σ->σ.l.lookup ("newp":Str)=some (.int (m.2:Nat))->Gd (ex (.seq (.a "p" "newp") (.seq (.ite (.cmp .GtE "p" "q") (.seq .brk .nil) .nil) .nil)) (T pp n) σ) (qDw qPq (T pp n) (AtT x k js jb H q r)):=by
    intro σ h D;refine gd_sasg (qB D) ?_;obtain h:=h.setp (v:=((m.2:Nat):Int));refine qN (jV (qB h.p) (qB h.q)) (λe=>?_) λe=>?_
    .replace u:=aw (j6 e) u;subst u;exact qG (Mine.Lake.gd_brk (⟨rfl,h⟩))
    .obtain u:=ao (w5 e) u;exact qF (plain _ _ h h1 h2 u)
   refine qN (jV (qB hiv) (qB h.p)) (λe=>?_) λe=>?_
   .replace F:=aw (j6 e) F;exact gd_sasg (kN (z:="") h.code (qB hiv) F) (qF (last _ h.setl (zX2 D)))
   .replace F:=ao (w5 e) F;subst F;exact last _ h D
 .cases m with
  |some m=>cases e
  |none=>exact qF (plain _ _ h h1 h2 u)
theorem qUk(J:js≠jb)(h:A2 x k js jb H q s σ)(D:wC x q 1000 s=some s'):Gd (ex w2L (T pp n) σ) λf σ'=>f=.next/\A2 x k js jb H q s' σ':=by
 refine xJ (λfuel σ=>∃s,A2 x k js jb H q s σ/\wC x q fuel s=some s') ⟨s,h,D⟩ ?_;rintro fuel σ ⟨s,h,D⟩;cases fuel with
 |zero=>cases D
 |succ fuel =>
 refine⟨fuel,rfl,?_⟩;have u:(if s.p<q then(qIf x q s).bind λr=>if r.1=true then some r.2 else wC x q fuel r.2 else some s)=some s':=D;refine⟨_,σ,decide (s.p<q),qBx (qB h.p) (qB h.q),rfl,λe=>?_,λe=>?_⟩
 .replace u:=aw (j6 e) u;refine px u λr L u=>(zDc J h L).mono λf σ' w=>?_;by_cases F:r.1=true
  .replace u:=aw F u;subst u;have I:f=.brk:=by have:=w.1;rwa[d3 F]at this
   subst I;exact⟨rfl,w.2⟩
  .replace u:=ao F u;have I:f=.cont\/f=.next:=by have:=w.1;rwa[b6 F]at this
   rcases I with rfl|rfl
   .exact⟨_,w.2,u⟩
   .exact⟨_,w.2,u⟩
 .replace u:=ao (w5 e) u;subst u;exact qF ⟨rfl,h⟩
structure Kept(H H':Hp)(d:Nat):Prop where
 n:H.n<=H'.n
 same:∀i,i<H.n->i≠d->H'.o i=H.o i
theorem Kept.refl:Kept H H d:=⟨i5 _,λq q q=>rfl⟩
theorem Kept.put(h:Kept H H' d):Kept H (hput H' d o) d:=⟨h.n,λi hi hd=>(qX hd).trans (h.same i hi hd)⟩
theorem Kept.new(h:Kept H H' d)(u:H.n<=j):Kept H (hput H' j o) d:=⟨h.n,λi hi hd=>(qX (n3 (g9 hi u))).trans (h.same i hi hd)⟩
theorem Kept.add(h:Kept H H' d):Kept H (Hp.add H' o) d:=⟨m3 h.n,λi hi hd=>(b6 (n3 (g9 hi h.n))).trans (h.same i hi hd)⟩
theorem Kept.trans{H' H'':Hp}(h:Kept H H' d)(u:Kept H' H'' d):Kept H H'' d:=⟨b7 h.n u.n,λi hi hd=>(u.same i (g9 hi h.n) hd).trans (h.same i hi hd)⟩
theorem qOa:Kept H (grown H d D L) d:=⟨eM _,λi hi hd=>(b6 (n3 hi)).trans (b6 hd)⟩
structure PK(H:Hp)(k d:Nat)(fs:Flds)(H':Hp):Prop where
 po:PO H' k d fs
 kept:Kept H H' d
 k:k<H.n
 d:d<H.n
theorem PK.put{H':Hp}(h:PK H k d fs H'){fs':Flds}:PK H k d fs' (hput H' d (.dict fs')):=⟨h.po.put,h.kept.put,h.k,h.d⟩
theorem PK.new{H':Hp}(h:PK H k d fs H')(u:H.n<=j){o:O}:PK H k d fs (hput H' j o):=⟨h.po.oth (n3 (g9 h.k u)) (n3 (g9 h.d u)),h.kept.new u,h.k,h.d⟩
theorem PK.add{H':Hp}(h:PK H k d fs H'){o:O}:PK H k d fs (Hp.add H' o):=
 ⟨⟨(b6 (n3 (g9 h.k h.kept.n))).trans h.po.inst,(b6 (n3 (g9 h.d h.kept.n))).trans h.po.dict,h.po.ne⟩,h.kept.add,h.k,h.d⟩
structure F2(fs:Flds)(iw tw:Int)(x:Str)(c g m:Nat):Prop where
 kx:Kx fs m
 iw:fs.lookup ("indentwidth":Str)=some (.int iw)
 tw:fs.lookup ("tabwidth":Str)=some (.int tw)
 code:fs.lookup ("code":Str)=some (.str x)
 cont:fs.lookup ("continuation":Str)=some (.int (c:Nat))
 lev:fs.lookup ("study_level":Str)=some (.int 2)
 good:fs.lookup ("goodlines":Str)=some (.ref g)
noncomputable def zOb(f:Str):Bool:=([ "indentwidth","tabwidth","code","continuation","study_level","goodlines"]:List Str).all λy=>!(y==f)
theorem F2.set(h:F2 fs iw tw x c g m){i:Nat}(hi:i<11)(u:i<=m){f:Str}(D:canon.getD i ""=f)(F:zOb f){v:V}:F2 (setF f v fs) iw tw x c g (max m (i+1)):=by
 obtain e:∀y∈([ "indentwidth","tabwidth","code","continuation","study_level","goodlines"]:List Str),(y==f)=false:=λy I=>by
  have:=List.all_eq_true.mp F y I;cases h:(y==f)with
  |false=>rfl
  |true=>rw[h]at this;cases this
 exact⟨h.kx.set hi u D,(qC (e _ pi)).trans h.iw,(qC (e _ pi)).trans h.tw,(qC (e _ pi)).trans h.code,(qC (e _ pi)).trans h.cont,(qC (e _ pi)).trans h.lev,(qC (e _ pi)).trans h.good⟩
theorem qAf(h:H.o j=some o):hput H j o=H:=by
 refine Eq.trans (g0 (λo=>Hp.mk o H.n) (funext λi=>?_)) (rfl:Hp.mk H.o H.n=H);by_cases e:i=j
 .subst e;rw[d3 rfl,h]
 .exact bc e rfl
theorem qNy{st:List Int}(h1:H.o js=some (.list (intsV st)))(h2:H.o jb=some (.list (brkV br))):xH H js jb st br=H:=by unfold xH;rw[qAf h1,qAf h2]
noncomputable def vS(l:List Int):V:=match l.getLast? with
 |some o=>.int o
 |none=>.none
theorem qMh(F:js≠jb)(hs:σ.o js=some (.list (intsV s.stack)))(h1:σ.l.lookup ("stack":Str)=some (.ref js))(u:s.stack.length<=1000):ev (T pp n).c (.ite "stack" (.idx "stack" (.neg (.int 1))) .none) σ=.ok (vS s.stack) σ:=by
 rw[zIm,Rs.bind_ok (qB h1)];unfold condR;have D:asList σ.h (.ref js)=some (intsV s.stack):=by show asO (σ.o js)=_;rw[hs];rfl
 rw[(by
  show(asList σ.h (.ref js)).map _=_
  rw[D];rfl:truV σ.h (.ref js)=some !(intsV s.stack).isEmpty)]
 rcases List.eq_nil_or_concat s.stack with e|⟨l,a,e⟩
 .rw[e];rfl
 .rw[e]at D u ⊢;obtain hl':l.length<=999:=by rw[lX,g8]at u;exact r7 u
  obtain e1:intsV (l.concat a)=intsV l++[.int a]:=by rw[lX];unfold intsV;rw[fD];rfl
  rw[(by rw[e1];cases intsV l <;> rfl:(!(intsV (l.concat a)).isEmpty)=true)];rw[(by unfold vS;rw[lX,gL]:vS (l.concat a)=.int a)];refine kC (qB h1) qEh (vT (xs:=intsV l++[.int a]) (j:=l.length) rfl (by rw[<- e1];exact D) pi ?_ ?_)
  .rw[(by unfold intsV;rw[g8,m8];rfl:(intsV l++[V.int a]).length=l.length+1)];unfold seqIndex?;rw[(by refine ax pi ?_;simp +arith:(if(-1:Int)<0 then(-1:Int)+(l.length+1:Nat)else -1)=((l.length:Nat):Int))];exact(d3 (by rw[i6];exact⟨e9 (u0 _),e9 (by simp +arith)⟩)).trans (g0 some (dH _))
  .rw[dG (by unfold intsV;rw[m8];exact i5 _)];unfold intsV;rw[m8,gU];rfl
structure F2x(fs:Flds)(iw tw:Int)(x:Str)(c g:Nat)(r:R2):Prop where
 f2:F2 fs iw tw x c g 11
 a:fs.lookup ("stmt_start":Str)=some (.int r.a)
 b:fs.lookup ("stmt_end":Str)=some (.int r.b)
 last:fs.lookup ("lastch":Str)=some (.str r.s.last)
 opn:fs.lookup ("lastopenbracketpos":Str)=some (vS r.s.stack)
 brk:fs.lookup ("stmt_bracketing":Str)=some (.tup (brkV r.s.brk))
def qLp(H:Hp)(k d:Nat)(iw tw:Int)(x:Str)(c g:Nat)(r:R2):Fl->St->Prop:=λf σ'=>f=.next/\∃fs',PK H k d fs' σ'.h/\F2x fs' iw tw x c g r
theorem zCl(J:fs.lookup ("stmt_start":Str)=some (.int a))(I:fs.lookup ("stmt_end":Str)=some (.int b))(U:js≠jb)(N:H.n<=js)(S:H.n<=jb)(h:A2 x k js jb H' q s σ)(u:PK H k d fs H')(F:F2 fs iw tw x c g 8)(h1:s.stack.length<=1000)(h2:s.brk.length<=1000):Gd (ex qYy (T pp n) σ) (qLp H k d iw tw x c g ⟨a,b,s⟩):=by
 have u:PK H k d fs σ.h:=by rw[h.hp];exact(u.new N).new S
 have X:js≠d:=λe=>d9 (g9 u.d N) (by rw[e];exact fP _);have O:jb≠d:=λe=>d9 (g9 u.d S) (by rw[e];exact fP _);obtain hs:σ.h.o js=some (.list (intsV s.stack)):=by rw[h.hp];exact qBr U
 obtain⟨e1,e2,V,L⟩:σ.l.lookup ("self":Str)=some (.ref k)/\σ.l.lookup ("lastch":Str)=some (.str s.last)/\σ.l.lookup ("stack":Str)=some (.ref js)/\σ.l.lookup ("bracketing":Str)=some (.ref jb):=⟨h.self,h.last,h.stack,h.brk⟩
 refine qG (xI (qB e2) (qB e1) (u.po.setA bT pi F.kx.len) ?_);obtain F:=F.set (i:=8) (f:="lastch") (v:=.str s.last) pi pi pw pw;obtain hL:=@qW "lastch" (.str s.last) fs;obtain J:=(qC (x:="stmt_start") (y:="lastch") (v:=.str s.last) (fs:=fs) pi).trans J;obtain I:=(qC (x:="stmt_end") (y:="lastch") (v:=.str s.last) (fs:=fs) pi).trans I;obtain u:=u.put (fs':=setF "lastch" (.str s.last) fs);obtain hs:=(qX (o:=.dict (setF "lastch" (.str s.last) fs)) X).trans hs;obtain hb:=(qX (o:=.dict (setF "lastch" (.str s.last) fs)) O).trans (by rw[h.hp];exact qQx:σ.h.o jb=some (.list (brkV s.brk)));generalize setF "lastch" (.str s.last) fs=fs2 at F u hs hb hL J I ⊢;generalize D:({ σ with h:=hput σ.h d (.dict fs2) }:St)=σ2;replace e1:σ2.l.lookup ("self":Str)=some (.ref k):=by rw[<- D];exact e1
 obtain V:σ2.l.lookup ("stack":Str)=some (.ref js):=by rw[<- D];exact V
 obtain L:σ2.l.lookup ("bracketing":Str)=some (.ref jb):=by rw[<- D];exact L
 obtain hs:σ2.h.o js=some (.list (intsV s.stack)):=by rw[<- D];exact hs
 obtain hb:σ2.h.o jb=some (.list (brkV s.brk)):=by rw[<- D];exact hb
 replace u:PK H k d fs2 σ2.h:=by rw[<- D];exact u
 refine qG (xI (qMh U hs V h1) (qB e1) (u.po.setA bT pi F.kx.len) ?_);obtain F:=F.set (i:=9) (f:="lastopenbracketpos") (v:=vS s.stack) pi pi pw pw;obtain hL:=(qC (x:="lastch") (y:="lastopenbracketpos") (v:=vS s.stack) (fs:=fs2) pi).trans hL;obtain hO:=@qW "lastopenbracketpos" (vS s.stack) fs2;obtain J:=(qC (x:="stmt_start") (y:="lastopenbracketpos") (v:=vS s.stack) (fs:=fs2) pi).trans J;obtain I:=(qC (x:="stmt_end") (y:="lastopenbracketpos") (v:=vS s.stack) (fs:=fs2) pi).trans I;obtain u:=u.put (fs':=setF "lastopenbracketpos" (vS s.stack) fs2);obtain hb:=(qX (o:=.dict (setF "lastopenbracketpos" (vS s.stack) fs2)) O).trans hb;generalize setF "lastopenbracketpos" (vS s.stack) fs2=fs3 at F u hb hL hO J I ⊢;generalize D:({ σ2 with h:=hput σ2.h d (.dict fs3) }:St)=σ3;obtain e1:σ3.l.lookup ("self":Str)=some (.ref k):=by rw[<- D];exact e1
 obtain L:σ3.l.lookup ("bracketing":Str)=some (.ref jb):=by rw[<- D];exact L
 obtain hb:σ3.h.o jb=some (.list (brkV s.brk)):=by rw[<- D];exact hb
 obtain u:PK H k d fs3 σ3.h:=by rw[<- D];exact u
 refine qG (xI (by
  refine zJ (σ':=⟨σ3.h,[],[]⟩) (qQ (v:=.top (.type "tuple")) (by rw[bT.gl];rfl)) (qE (qB L) rfl) ?_
  rw[zDo,qLz]
  show(asO (σ3.o jb)).elim Rs.bad _=_
  rw[hb];rfl:ev (T pp n).c (.call (.g "tuple") (qc "bracketing")) σ3=.ok (.tup (brkV s.brk)) σ3) (qB e1) (u.po.setA bT pi F.kx.len) (qF ⟨rfl,_,u.put,?_,(qC pi).trans J,(qC pi).trans I,(qC pi).trans hL,(qC pi).trans hO,qW⟩))
 exact F.set (i:=10) (f:="stmt_bracketing") pi pi pw pw
def zKl:S:=.seq (.setA2 "self" "stmt_start" "self" "stmt_end" (.tup (.cons "p" (qc "q")))) (.seq (.a "lastch" (.str "")) (.seq (.own "stack" (.list .nil)) (.seq (.a "push_stack" (.attr "stack" "append")) (.seq (.own "bracketing" (.list (qc (.tup (.cons "p" (.cons (.int 0) .nil)))))) (.seq w2L qYy)))))
theorem qVi(h:zNt o=some s'):o=some s'/\s'.stack.length<=1000/\s'.brk.length<=1000:=by
 refine px h λs u h2=>?_;subst u;by_cases e:s.stack.length<=1000/\s.brk.length<=1000
 .replace h2:=aw e h2;subst h2;exact⟨rfl,e⟩
 .replace h2:=ao e h2;cases h2
theorem qJp(u:PK H k d fs σ.h)(N:F2 fs iw tw x c g 6)(e1:σ.l.lookup ("self":Str)=some (.ref k))(e2:σ.l.lookup ("code":Str)=some (.str x))(D:σ.l.lookup ("p":Str)=some (.int p))(F:σ.l.lookup ("q":Str)=some (.int q))(S:readF x p q=some r):Gd (ex zKl (T pp n) σ) (qLp H k d iw tw x c g r):=by
 obtain⟨s',V,rfl⟩:=qb S;obtain⟨S,l1,l2⟩:=qVi V;refine qG (zBt (a0:=σ) (a7:=σ) (aP:={ σ with h:=hput σ.h d (.dict (setF "stmt_start" (.int p) fs)) }) (qAo (qE (qB D) (qE (qB F) rfl)) (by show 2<=j0;decide)) (qB e1) (u.po.setA bT pi N.kx.len) (qB e1) (u.put.po.setA bT pi (N.set (i:=6) (f:="stmt_start") (v:=.int p) pi pi pw pw).kx.len) ?_);obtain N:=(N.set (i:=6) (f:="stmt_start") (v:=.int p) pi pi pw pw).set (i:=7) (f:="stmt_end") (v:=.int q) pi pi pw pw;obtain u:=(u.put (fs':=setF "stmt_start" (.int p) fs)).put (fs':=setF "stmt_end" (.int q) (setF "stmt_start" (.int p) fs));obtain ha:(setF "stmt_end" (.int q) (setF "stmt_start" (.int p) fs)).lookup ("stmt_start":Str)=some (.int p):=(qC pi).trans qW;obtain hz:=@qW "stmt_end" (.int q) (setF "stmt_start" (.int p) fs);generalize setF "stmt_end" (.int q) (setF "stmt_start" (.int p) fs)=fs2 at N u ha hz ⊢;generalize L:({ σ with h:=hput (hput σ.h d (.dict (setF "stmt_start" (.int p) fs))) d (.dict fs2) }:St)=σ2;have X:({ ({ σ with h:=hput σ.h d (.dict (setF "stmt_start" (.int p) fs)) }:St)with h:=hput (hput σ.h d (.dict (setF "stmt_start" (.int p) fs))) d (.dict fs2) }:St)=σ2:=L;obtain e1:σ2.l.lookup ("self":Str)=some (.ref k):=by rw[<- L];exact e1
 obtain e2:σ2.l.lookup ("code":Str)=some (.str x):=by rw[<- L];exact e2
 obtain D:σ2.l.lookup ("p":Str)=some (.int p):=by rw[<- L];exact D
 obtain F:σ2.l.lookup ("q":Str)=some (.int q):=by rw[<- L];exact F
 obtain u:PK H k d fs2 σ2.h:=by rw[<- L];exact u
 refine gd_sasg (v:=.str "") rfl ?_;obtain e1:=@qA σ2 "lastch" "self" (.str "") _ pi e1;obtain e2:=@qA σ2 "lastch" "code" (.str "") _ pi e2;obtain D:=@qA σ2 "lastch" "p" (.str "") _ pi D;obtain F:=@qA σ2 "lastch" "q" (.str "") _ pi F;obtain I:=@qD σ2 "lastch" (.str "");obtain u:PK H k d fs2 (σ2.set "lastch" (.str "")).h:=u;generalize σ2.set "lastch" (.str "")=σ at e1 e2 D F I u ⊢;refine qG (qOd (a0:=σ) (xs:=[]) (vF rfl pi) ?_);obtain hs:((σ.add (.list [])).set "stack" (.ref σ.n)).o σ.n=some (.list []):=d3 rfl;obtain hlt:σ.n<((σ.add (.list [])).set "stack" (.ref σ.n)).n:=s9 _;obtain hle:H.n<=σ.n:=u.kept.n;obtain e1:=@qA (σ.add (.list [])) "stack" "self" (.ref σ.n) _ pi e1;obtain e2:=@qA (σ.add (.list [])) "stack" "code" (.ref σ.n) _ pi e2;obtain D:=@qA (σ.add (.list [])) "stack" "p" (.ref σ.n) _ pi D;obtain F:=@qA (σ.add (.list [])) "stack" "q" (.ref σ.n) _ pi F;obtain I:=@qA (σ.add (.list [])) "stack" "lastch" (.ref σ.n) _ pi I;obtain J:=@qD (σ.add (.list [])) "stack" (.ref σ.n);obtain u:PK H k d fs2 ((σ.add (.list [])).set "stack" (.ref σ.n)).h:=u.add;generalize Y:σ.n=js at hs hlt hle e1 e2 D F I J u ⊢;generalize(σ.add (.list [])).set "stack" (.ref js)=σ at hs hlt e1 e2 D F I J u ⊢;refine gd_sasg (qK (qB J) (qDq bT hs)) ?_;obtain e1:=@qA σ "push_stack" "self" (.bnd js) _ pi e1;obtain e2:=@qA σ "push_stack" "code" (.bnd js) _ pi e2;replace D:=@qA σ "push_stack" "p" (.bnd js) _ pi D;obtain F:=@qA σ "push_stack" "q" (.bnd js) _ pi F;obtain I:=@qA σ "push_stack" "lastch" (.bnd js) _ pi I;obtain J:=@qA σ "push_stack" "stack" (.bnd js) _ pi J;obtain O:=@qD σ "push_stack" (.bnd js);obtain u:PK H k d fs2 (σ.set "push_stack" (.bnd js)).h:=u;obtain hs:(σ.set "push_stack" (.bnd js)).o js=some (.list []):=hs;obtain hlt:js<(σ.set "push_stack" (.bnd js)).n:=hlt;generalize σ.set "push_stack" (.bnd js)=σ at hs hlt e1 e2 D F I J O u ⊢;refine qG (qOd (a0:=σ) (xs:=[.tup [.int p,.int 0]]) (vF (qE (qAo (qE (qB D) (qE rfl rfl)) (by show 2<=j0;decide)) rfl) (by show 1<=j0;decide)) ?_);obtain hb:((σ.add (.list [.tup [.int p,.int 0]])).set "bracketing" (.ref σ.n)).o σ.n=some (.list [.tup [.int p,.int 0]]):=d3 rfl;obtain hs:((σ.add (.list [.tup [.int p,.int 0]])).set "bracketing" (.ref σ.n)).o js=some (.list []):=(b6 (n3 hlt)).trans hs;obtain hne:js≠σ.n:=n3 hlt;obtain hle2:H.n<=σ.n:=u.kept.n;replace e1:=@qA (σ.add (.list [.tup [.int p,.int 0]])) "bracketing" "self" (.ref σ.n) _ pi e1;replace e2:=@qA (σ.add (.list [.tup [.int p,.int 0]])) "bracketing" "code" (.ref σ.n) _ pi e2;replace D:=@qA (σ.add (.list [.tup [.int p,.int 0]])) "bracketing" "p" (.ref σ.n) _ pi D;replace F:=@qA (σ.add (.list [.tup [.int p,.int 0]])) "bracketing" "q" (.ref σ.n) _ pi F;replace I:=@qA (σ.add (.list [.tup [.int p,.int 0]])) "bracketing" "lastch" (.ref σ.n) _ pi I;replace J:=@qA (σ.add (.list [.tup [.int p,.int 0]])) "bracketing" "stack" (.ref σ.n) _ pi J;replace O:=@qA (σ.add (.list [.tup [.int p,.int 0]])) "bracketing" "push_stack" (.ref σ.n) _ pi O;have U:=@qD (σ.add (.list [.tup [.int p,.int 0]])) "bracketing" (.ref σ.n);replace u:PK H k d fs2 ((σ.add (.list [.tup [.int p,.int 0]])).set "bracketing" (.ref σ.n)).h:=u.add;generalize Y:σ.n=jb at hs hb hne hle2 e1 e2 D F I J O U u ⊢;generalize(σ.add (.list [.tup [.int p,.int 0]])).set "bracketing" (.ref jb)=σ at hs hb e1 e2 D F I J O U u ⊢;refine zA ((qUk hne (⟨e1,e2,D,F,I,J,O,U,(qNy hs hb).symm⟩) S).mono ?_);rintro f σ' ⟨rfl,h'⟩;exact zCl ha hz hne hle hle2 h' u N l1 l2
theorem zHc{r:Nat×Int×Int}(F:PK H k d fs σ.h)(I:F2 fs iw tw x c g 6)(e1:σ.l.lookup ("self":Str)=some (.ref k))(e2:σ.l.lookup ("code":Str)=some (.str x))(D:σ.l.lookup ("p":Str)=some (.int r.2.1))(O:r.1≠0->σ.l.lookup ("q":Str)=some (.int r.2.2))(N:σ.l.lookup ("i":Str)=some (.int (r.1:Nat)))(u:(if r.1=0 then(if r.2.1=0 then readF x r.2.1 r.2.1 else none)else readF x r.2.1 r.2.2)=some L):Gd (ex qYx (T pp n) σ) (qLp H k d iw tw x c g L):=by
 show Gd (ex (.seq (.ite (.cmp .Eq "i" (.int 0)) (.seq (.assert (.cmp .Eq "p" (.int 0))) (.seq (.a "q" "p") .nil)) .nil) zKl) (T pp n) σ) _;refine qN (xK (qB N) rfl) (λe=>?_) (λe=>?_)
 .obtain u:=aw (dm (b:=0) e) u;by_cases hp:r.2.1=0
  .replace u:=aw hp u;refine qT ?_ (gd_sasg (qB D) (qF ?_))
   .rw[xK (qB D) rfl,hp];rfl
   exact qJp (fs:=fs) (F) I (zX2 e1) (zX2 e2) (zX2 D) qD u
  .replace u:=ao hp u;cases u
 .have J:¬r.1=0:=λq=>by rw[q]at e;cases e
  replace u:=ao J u;exact qJp F I e1 e2 D (O J) u
def zEt:S:=.seq (.asg2 "code" "goodlines" (.tup (.cons (qe "code") (qc (qe "goodlines"))))) (.seq (.a "i" (.bin .Sub (qd "goodlines") (.int 1))) (.seq (.a "p" (qd "code")) (.seq w1L qYx)))
theorem qIn(e1:σ1.l.lookup ("self":Str)=some (.ref k))(u:PK H k d F σ1.h)(I:FsS F iw tw x 1 j c)(D:σ1.h.o j=some (.list (natsV gl)))(S:j≠d)(J:xF x gl=some s'):Gd (ex (.seq (.setA "self" "study_level" (.int 2)) zEt) (T pp (n+1)) σ1) (qLp H k d iw tw x c j s'):=by
 obtain hG:=I.good;refine qG (xI (v:=.int 2) (a0:=σ1) rfl (qB e1) (u.po.setA bT pi I.kx.len) ?_);obtain hne:∀y∈([ "indentwidth","tabwidth","code","continuation","goodlines"]:List Str),(y=="study_level")=false:=pw;have O:F2 (setF "study_level" (.int 2) F) iw tw x c j 6:=⟨(I.kx6.set (i:=3) pi pi pw).less pi,(qC (hne _ pi)).trans I.iw,(qC (hne _ pi)).trans I.tw,(qC (hne _ pi)).trans I.code,(qC (hne _ pi)).trans I.cont,qW,(qC (hne _ pi)).trans hG⟩
 obtain hG2:(setF "study_level" (.int 2) F).lookup ("goodlines":Str)=some (.ref j):=(qC (hne _ pi)).trans hG;obtain u:=u.put (fs':=setF "study_level" (.int 2) F);obtain D:=(qX (o:=.dict (setF "study_level" (.int 2) F)) S).trans D;generalize setF "study_level" (.int 2) F=fs2 at O hG2 u D ⊢;generalize N:({ σ1 with h:=hput σ1.h d (.dict fs2) }:St)=σ2;replace e1:σ2.l.lookup ("self":Str)=some (.ref k):=by rw[<- N];exact e1
 replace u:PK H k d fs2 σ2.h:=by rw[<- N];exact u
 obtain D:σ2.h.o j=some (.list (natsV gl)):=by rw[<- N];exact D
 by_cases L:gl.length=0\/gl.length>1000
 .replace J:=aw L J;exact nomatch J
 replace J:=ao L J;have V:0<gl.length:=r6 λq=>L (.inl q);refine px J λr U J=>qG (qHr (a0:=σ2) (qAo (xs:=[.str x,.ref j]) (qE (qK (qB e1) (u.po.fld bT pi O.code rfl)) (qE (qK (qB e1) (u.po.fld bT pi hG2 rfl)) rfl)) (by show 2<=j0;decide)) ?_);obtain e2:=@qA (σ2.set "code" (.str x)) "goodlines" "code" (.ref j) _ pi qD;obtain e3:=@qD (σ2.set "code" (.str x)) "goodlines" (.ref j);obtain e1:=@qA (σ2.set "code" (.str x)) "goodlines" "self" (.ref j) _ pi (zX2 e1);obtain u:PK H k d fs2 ((σ2.set "code" (.str x)).set "goodlines" (.ref j)).h:=u;obtain D:((σ2.set "code" (.str x)).set "goodlines" (.ref j)).h.o j=some (.list (natsV gl)):=D;generalize(σ2.set "code" (.str x)).set "goodlines" (.ref j)=σ3 at e1 e2 e3 u D ⊢;refine gd_sasg (kB (
  zJ (σ':=⟨σ3.h,[],[]⟩) (qQ (qAg bT)) (qE (qB e3) rfl) (by
   rw[bT.bl,qGc D]
   unfold natsV;rw[m8];rfl)) rfl) ?_
 rw[(jr L:((gl.length:Nat):Int)-1=((gl.length-1:Nat):Int))];obtain e4:=@qD σ3 "i" (.int ((gl.length-1:Nat):Int));obtain e1:=@qA σ3 "i" "self" (.int ((gl.length-1:Nat):Int)) _ pi e1;obtain e2:=@qA σ3 "i" "code" (.int ((gl.length-1:Nat):Int)) _ pi e2;obtain e3:=@qA σ3 "i" "goodlines" (.int ((gl.length-1:Nat):Int)) _ pi e3;obtain u:PK H k d fs2 (σ3.set "i" (.int ((gl.length-1:Nat):Int))).h:=u;obtain D:(σ3.set "i" (.int ((gl.length-1:Nat):Int))).h.o j=some (.list (natsV gl)):=D;generalize σ3.set "i" (.int ((gl.length-1:Nat):Int))=σ4 at e1 e2 e3 e4 u D ⊢;refine gd_sasg (qBy bT e2) (zA ((qXq D (Nat.not_lt.mp λq=>L (.inr q)) (gW V (eQ 0)) (⟨zX2 e1,zX2 e2,zX2 e3,zX2 e4,qD,rfl⟩) U).mono ?_));rintro f σ' ⟨rfl,h',hq⟩;exact zHc (by rw[h'.hp];exact u) O h'.self h'.code h'.p hq h'.i J
structure Std(H:Hp)(k d:Nat)(iw tw:Int)(x:Str)(gl:Ln)(c:Nat)(fs:Flds):Prop where
 po:PO H k d fs
 st:∃j,FsS fs iw tw x 1 j c/\H.o j=some (.list (natsV gl))/\j≠d/\j<H.n
 k:k<H.n
 d:d<H.n
theorem uA(h:Ready H k d fs iw tw x gl c):Std (grown H d (.dict (stud fs H.n c)) (.list (natsV gl))) k d iw tw x gl c (stud fs H.n c):=
 ⟨zBn h.po h.k h.d,⟨H.n,zEu (j:=H.n) (c:=c) h.fs,d3 rfl,dO h.d,s9 _⟩,dU h.k,dU h.d⟩
theorem yY(h:Std H k d iw tw x gl c fs):∃σ',(T pp (n+1)).app (.top (.ref 200)) [.ref k] H=.ok .none σ'/\σ'.h=H:=by
 obtain⟨j,u,_⟩:=h.st;obtain⟨f,σ',e,rfl,w⟩:=(by
  obtain h1:(entry ((["self"]:List Str).zip [.ref k]) H).l.lookup ("self":Str)=some (.ref k):=rfl
  obtain h2:(entry ((["self"]:List Str).zip [.ref k]) H).h=H:=rfl
  generalize entry ((["self"]:List Str).zip [.ref k]) H=σ at h1 h2 ⊢
  subst h2
  exact qN (t:=decide ((1:Int)≥1)) (jV (qK (qB h1) (h.po.fld bT (v:=.int 1) pi u.lev rfl)) rfl) (λz=>qG (qQz ⟨rfl,rfl⟩)) λq=>d9 q pi:Gd (ex yZ (T pp n) (entry ((["self"]:List Str).zip [.ref k]) H)) λf σ'=>f=.ret .none/\σ'.h=H)
 refine⟨σ',?_,w⟩;rw[vY pi];exact wR (by rfl) rfl e rfl
theorem qKf(h:Ready H k d fs iw tw x gl c):∃σ',(T pp (n+2)).app (.top (.ref 207)) [.ref k] H=.ok (.int (c:Nat)) σ'/\Kept H σ'.h d/\∃fs',Std σ'.h k d iw tw x gl c fs':=by
 obtain⟨f,σ',e,rfl,w⟩:=(by
  obtain h1:(entry ((["self"]:List Str).zip [.ref k]) H).l.lookup ("self":Str)=some (.ref k):=rfl
  obtain h2:(entry ((["self"]:List Str).zip [.ref k]) H).h=H:=rfl
  generalize entry ((["self"]:List Str).zip [.ref k]) H=σ at h1 h2 ⊢
  subst h2
  obtain⟨a7,a1,a2⟩:=qSm (pp:=pp) (n:=n) h
  refine zC (qR (qB h1) (h.po.get bT (h.fs.kx.m pi) (by rfl)) (xs:=[]) rfl a1) ?_
  rw[a2]
  obtain hS:=uA h
  obtain⟨j,u,_⟩:=hS.st
  exact qG (vJ (qK (qB h1) (hS.po.fld bT pi u.cont rfl)) ⟨rfl,rfl⟩):Gd (ex qOc (T pp (n+1)) (entry ((["self"]:List Str).zip [.ref k]) H)) λf σ'=>f=.ret (.int (c:Nat))/\σ'.h=grown H d (.dict (stud fs H.n c)) (.list (natsV gl)))
 refine⟨σ',?_,by rw[w];exact qOa,stud fs H.n c,by rw[w];exact uA h⟩;rw[vY pi];exact wR (by rfl) rfl e rfl
theorem qMg(h:Std H k d iw tw x gl c fs)(L:xF x gl=some s'):∃σ',(T pp (n+2)).app (.top (.ref 214)) [.ref k] H=.ok .none σ'/\∃fs' j,PK H k d fs' σ'.h/\F2x fs' iw tw x c j s'/\σ'.h.o j=some (.list (natsV gl))/\j≠d/\j<H.n:=by
 obtain⟨j,F,J,u,D⟩:=h.st;obtain⟨f,σ',e,rfl,w⟩:=(by
  have h1:(entry ((["self"]:List Str).zip [.ref k]) H).l.lookup ("self":Str)=some (.ref k):=rfl
  have h2:(entry ((["self"]:List Str).zip [.ref k]) H).h=H:=rfl
  generalize entry ((["self"]:List Str).zip [.ref k]) H=σ at h1 h2 ⊢
  subst h2
  obtain⟨a7,a1,a2⟩:=yY (pp:=pp) (n:=n) h
  rw[qEm]
  refine qN (t:=decide ((1:Int)≥2)) (jV (qK (qB h1) (h.po.fld bT (v:=.int 1) pi F.lev rfl)) rfl) (λq=>d9 q pi) λz=>zC (qR (qB h1) (h.po.get bT (F.kx.m pi) (by rfl)) (xs:=[]) rfl a1) ?_
  exact qIn (σ1:={ σ with h:=a7.h }) h1 (by rw[a2];exact⟨h.po,Kept.refl,h.k,h.d⟩) F (by rw[a2];exact J) u L:Gd (ex yX (T pp (n+1)) (entry ((["self"]:List Str).zip [.ref k]) H)) (qLp H k d iw tw x c j s'))
 obtain⟨fs',I,N⟩:=w;refine⟨σ',?_,fs',j,I,N,(I.kept.same j D u).trans J,u,D⟩;rw[vY pi];exact wR (by rfl) rfl e rfl
end
noncomputable def itB:S:=.seq (.a "m" (.call (.g "_itemre") (.cons "code" (qc "j")))) (.seq (.ite "m" (.seq (.a "j" (.bin .Sub (.m "m" "end" .nil) (.int 1))) (.seq (.a "extra" (.int 0)) (.seq .brk .nil))) (.seq (.asgs "i" "j" (qf (.m "code" "find" (.cons (.str "\n") (qc "j"))) 1)) .nil)) .nil)
noncomputable def blB:S:=.seq (.a "j" (qf "j" 1)) .nil
def itE:S:=.seq (.asgs "j" "i" "origi") (.seq (.loop 1000 (.cmp .In (.idx "code" "j") (.str " \t")) blB .nil) (.seq (.a "extra" (qe "indentwidth")) .nil))
def itL:S:=(.loop 1000 (.cmp .Lt "j" "n") itB itE)
theorem zAp:strMeth "expandtabs"=some "str.expandtabs":= by rfl
theorem qGb:bapp "str.expandtabs" [a,b] H=tabsB a b H:=rfl
theorem qPm{a:X}(hc:σ.l.lookup ("code":Str)=some (.str x))(u:ev (T pp n).c a σ=.ok (.int i) σ):ev (T pp n).c (.m "code" "find" (.cons (.str "\n") (.cons a .nil))) σ=.ok (.int (dF x nlT i)) σ :=
 qR (σ':=⟨σ.h,[],[]⟩) (qB hc) (xX bT zAr) (qE rfl (qE u rfl)) (by
  rw[bT.bl]
  show bapp "str.find" [.str x,.str "\n",.int i] _=_
  rw[qGe];rfl)
structure A3(x:Str)(k:Nat)(H:Hp)(o:Int)(σ:St):Prop where
 self:σ.l.lookup ("self":Str)=some (.ref k)
 code:σ.l.lookup ("code":Str)=some (.str x)
 n:σ.l.lookup ("n":Str)=some (.int (x.length:Nat))
 origi:σ.l.lookup ("origi":Str)=some (.int o)
 hp:σ.h=H
theorem zJm:∀y∈(["i","j","m","extra"]:List Str),∀z∈(["self","code","n","origi"]:List Str),(z==y)=false:=pw
theorem A3.oth(h:A3 x k H o σ)(u:y∈(["i","j","m","extra"]:List Str)):A3 x k H o (σ.set y v):=by obtain a:=zJm y u;exact⟨qA (a _ pi) h.self,qA (a _ pi) h.code,qA (a _ pi) h.n,qA (a _ pi) h.origi,h.hp⟩
structure IJ(i j:Int)(σ:St):Prop where
 i:σ.l.lookup ("i":Str)=some (.int i)
 j:σ.l.lookup ("j":Str)=some (.int j)
theorem qWa{j:Int}(h:A3 x k H o σ)(D:IJ i j σ)(u:xO x 1000 j=some F):Gd (ex (.loop 1000 (.cmp .In (.idx "code" "j") (.str " \t")) blB .nil) (T pp n) σ) λf σ'=>f=.next/\A3 x k H o σ'/\IJ i F σ':=by
 refine xJ (λfuel σ=>∃j,A3 x k H o σ/\IJ i j σ/\xO x fuel j=some F) ⟨j,h,D,u⟩ ?_;rintro fuel σ ⟨j,h,D,u⟩;cases fuel with
 |zero=>cases u
 |succ fuel =>
 refine⟨fuel,rfl,ae (pz (u)) λc hc u=>⟨_,σ,m6 " \t" c,qId (kN (z:="") h.code (qB D.j) hc) rfl,rfl,λe=>?_,λe=>?_⟩⟩
 .replace u:=aw e u;exact gd_sasg (qO (qB D.j) rfl) (qF ⟨j+1,h.oth pi,⟨zX2 D.i,qD⟩,u⟩)
 .replace u:=ao (by rw[e];decide) u;subst u;exact qF ⟨rfl,h,D⟩
theorem zBh{i j:Int}{r:Option (Int×Int)}{pre:Str}{D:Bool}(L:PO H k d fs)(N:fs.lookup ("indentwidth":Str)=some (.int iw))(h:A3 x k H o σ)(u:IJ i j σ)(hi:uL x 1000 i j=some r)(F:(match r with|some m=>some (zH x m.1 m.2,false)|none=>(xO x 1000 o).map λj=>(zH x o j,true))=some (pre,D)):Gd (ex itL (T pp n) σ) λf σ'=>f=.next/\A3 x k H o σ'/\(∃i j,IJ i j σ'/\zH x i j=pre)/\σ'.l.lookup ("extra":Str)=some (.int (if D then iw else 0)):=by
 refine xJ (λfuel σ=>∃i j,A3 x k H o σ/\IJ i j σ/\uL x fuel i j=some r) ⟨i,j,h,u,hi⟩ ?_;rintro fuel σ ⟨i,j,h,u,hi⟩;cases fuel with
 |zero=>cases hi
 |succ fuel =>
 refine⟨fuel,rfl,?_⟩;obtain hi:(if j<(x.length:Nat)then(reAt itemC x [j]).bind λr=>match r with
   |some m=>some (some (i,((m.2:Nat):Int)-1))
   |none=>uL x fuel (dF x nlT j+1) (dF x nlT j+1)
  else some none)=some r:=hi
 refine⟨_,σ,decide (j<(x.length:Nat)),qBx (qB u.j) (qB h.n),rfl,λe=>?_,λe=>?_⟩
 .replace hi:=aw (j6 e) hi;refine px hi λm hm hi=>gd_sasg (zJx (b:=81) (code:=itemC) (by rfl) (by rfl) h.code (qB u.j) hm) ?_;have hv:=@qD σ "m" (mtV m);replace h:=h.oth (y:="m") (v:=mtV m) pi;replace u:IJ i j (σ.set "m" (mtV m)):=⟨zX2 u.i,zX2 u.j⟩
  generalize σ.set "m" (mtV m)=σ at h hv u ⊢;refine zA (jP (qB hv) qLt (λe=>?_) λe=>?_)
  .cases m with
   |none=>cases e
   |some m =>obtain e':some (i,((m.2:Nat):Int)-1)=r:=b5 hi;clear hi L N;subst e';have I:some (zH x i ((m.2:Nat)-1),false)=some (pre,D):=F;cases I;exact gd_sasg (kB (qPo (p:=m.1) (e:=m.2) (qB hv)) rfl) (gd_sasg (v:=.int 0) rfl (qG (Mine.Lake.gd_brk (⟨rfl,(h.oth pi).oth pi,⟨i,_,⟨zX2 (zX2 u.i),zX2 qD⟩,rfl⟩,qD⟩))))
  .clear hv;cases m with
   |some m=>cases e
   |none =>exact qG (uP (qO (qPm h.code (qB u.j)) rfl) (qF (qF (⟨_,_,(h.oth pi).oth pi,⟨zX2 qD,qD⟩,hi⟩))))
 .replace hi:=ao (w5 e) hi;subst hi;refine qa (F) λO J F=>?_;injection F with F h_;subst F h_
  refine qG (uP (qB h.origi) ?_);obtain u:IJ o o ((σ.set "j" (.int o)).set "i" (.int o)):=⟨qD,zX2 qD⟩
  obtain h:=(h.oth (y:="j") (v:=.int o) pi).oth (y:="i") (v:=.int o) pi;generalize(σ.set "j" (.int o)).set "i" (.int o)=σ at h u ⊢;refine zA ((qWa h u J).mono ?_);rintro f σ ⟨rfl,h,u⟩;exact gd_sasg (qK (qB h.self) (by rw[h.hp];exact L.fld bT pi N rfl)) (qF (⟨rfl,h.oth pi,⟨o,O,⟨zX2 u.i,zX2 u.j⟩,rfl⟩,qD⟩))
def zPx:S:=.seq (.assert (.cmp .Eq (qe "continuation") (.g "C_BRACKET"))) (.seq (.a "j" (qe "lastopenbracketpos")) (.seq (.a "code" (qe "code")) (.seq (.a "n" (qd "code")) (.seq (.asgs "origi" "i" (qf (.m "code" "rfind" (.cons (.str "\n") (.cons (.int 0) (qc "j")))) 1)) (.seq (.a "j" (qf "j" 1)) (.seq itL (.seq (.ret (.bin .Add (.call (.g "len") (qc (.m (.slc "code" "i" "j") "expandtabs" (qc (qe "tabwidth"))))) "extra")) .nil)))))))
structure Told(H:Hp)(k d:Nat)(iw tw:Int)(x:Str)(gl:Ln)(c:Nat)(r:R2)(fs:Flds):Prop where
 po:PO H k d fs
 st:∃j,F2x fs iw tw x c j r/\H.o j=some (.list (natsV gl))/\j≠d/\j<H.n
 k:k<H.n
 d:d<H.n
theorem qIm(h:Std H k d iw tw x gl c fs)(J:xF x gl=some r):∃σ',(T pp (n+2)).app (.top (.ref 214)) [.ref k] H=.ok .none σ'/\Kept H σ'.h d/\∃fs',Told σ'.h k d iw tw x gl c r fs':=by obtain⟨σ',e,fs',j,u,D,L,F,I⟩:=qMg (pp:=pp) (n:=n) h J;exact⟨σ',e,u.kept,fs',u.po,⟨j,D,L,F,g9 I u.kept.n⟩,g9 h.k u.kept.n,g9 h.d u.kept.n⟩
theorem qGs(h:Told H k d iw tw x gl c r fs):∃σ',(T pp (n+1)).app (.top (.ref 214)) [.ref k] H=.ok .none σ'/\σ'.h=H:=by refine ae h.st λj u z=>qAl (· = H) pi (by rfl) rfl λσ h1 h2=>?_;subst h2;rw[qEm];exact qN (t:=decide ((2:Int)≥2)) (jV (qK (qB (by rw[h1];rfl)) (h.po.fld bT (v:=.int 2) pi u.f2.lev rfl)) rfl) (λz=>qG (qQz ⟨rfl,rfl⟩)) λq=>d9 q pi
theorem uW{gl:Ln}{r:R2}{f:Addr}{sc:Scope}{b:S}{v:V}(h:Told H k d iw tw x gl c r fs)(D:f≠266/\(qIy f).isNone)(u:rows09.lookup f=some (sc,(["self"]:List Str),S.seq (.expr (.m "self" "_study2" .nil)) b))(I:∀σ:St,σ.l.lookup ("self":Str)=some (.ref k)->σ.h=H->Gd (ex b (T pp (n+1)) σ) λf σ'=>retR f σ'=.ok v σ'/\σ'.h=H)(hc:uF sc (["self"]:List Str):=by decide +kernel):∃σ',(T pp (n+2)).app (.top (.ref f)) [.ref k] H=.ok v σ'/\σ'.h=H:=by
 refine ae h.st λj F q=>qAl (· = H) D u rfl (λσ h1 h2=>?_) hc;obtain e1:σ.l.lookup ("self":Str)=some (.ref k):=by rw[h1];rfl
 refine ae (qGs (pp:=pp) (n:=n) h) λa7 a1 a2=>?_;rw[<- h2]at a1;exact zC (qR (qB e1) (by rw[h2];exact h.po.get bT (F.f2.kx.m pi) (by rfl)) (xs:=[]) rfl a1) (I { σ with h:=a7.h } e1 a2)
theorem qKc(h:Told H k d iw tw x gl 4 r2 fs)(e1:σ.l.lookup ("self":Str)=some (.ref k))(e0:σ.h=H)(hL:r2.s.stack.getLast?=some o)(J:kZ x o=some (pre,F))(O:tabOk pre tw):Gd (ex zPx (T pp n) σ) λf σ'=>retR f σ'=.ok (.int ((expandT tw.toNat pre).length+(if F then iw else 0))) σ'/\σ'.h=H:=by
 refine px J λr N J=>?_;obtain⟨S,⟨I,_,_,_,L,_⟩,_⟩:=h.st;have D:=h.po;have u:=e0;refine qT ?_ ?_
 .rw[xK (qK (qB e1) (by rw[u];exact D.fld bT pi I.cont rfl)) (qQ (zNg bT))];rfl
 refine gd_sasg (qK (qB e1) (by rw[u];exact D.fld bT pi (by rw[L];unfold vS;rw[hL]:fs.lookup ("lastopenbracketpos":Str)=some (.int o)) rfl)) ?_;obtain ej:=@qD σ "j" (.int o);obtain e1:=@qA σ "j" "self" (.int o) _ pi e1;obtain u:(σ.set "j" (.int o)).h=H:=u;generalize σ.set "j" (.int o)=σ at e1 ej u ⊢;refine gd_sasg (qK (qB e1) (by rw[u];exact D.fld bT pi I.code rfl)) ?_;obtain ec:=@qD σ "code" (.str x);obtain e1:=@qA σ "code" "self" (.str x) _ pi e1;obtain ej:=@qA σ "code" "j" (.str x) _ pi ej;obtain u:(σ.set "code" (.str x)).h=H:=u;generalize σ.set "code" (.str x)=σ at e1 ec ej u ⊢;refine gd_sasg (qBy bT ec) ?_;obtain en:=@qD σ "n" (.int (x.length:Nat));obtain e1:=@qA σ "n" "self" (.int (x.length:Nat)) _ pi e1;obtain ej:=@qA σ "n" "j" (.int (x.length:Nat)) _ pi ej;obtain ec:=@qA σ "n" "code" (.int (x.length:Nat)) _ pi ec;obtain u:(σ.set "n" (.int (x.length:Nat))).h=H:=u;generalize σ.set "n" (.int (x.length:Nat))=σ at e1 ec ej en u ⊢;refine qG (uP (qO (qPj ec (qB ej)) rfl) ?_);have h3:A3 x k H (rfindF x o+1) ((σ.set "origi" (.int (rfindF x o+1))).set "i" (.int (rfindF x o+1))):=⟨zX2 (zX2 e1),zX2 (zX2 ec),zX2 (zX2 en),zX2 qD,u⟩
 obtain ei:((σ.set "origi" (.int (rfindF x o+1))).set "i" (.int (rfindF x o+1))).l.lookup ("i":Str)=some (.int (rfindF x o+1)):=qD;obtain ej:((σ.set "origi" (.int (rfindF x o+1))).set "i" (.int (rfindF x o+1))).l.lookup ("j":Str)=some (.int o):=zX2 (zX2 ej);generalize(σ.set "origi" (.int (rfindF x o+1))).set "i" (.int (rfindF x o+1))=σ at h3 ei ej ⊢;refine gd_sasg (qO (qB ej) rfl) ?_;obtain hij:IJ (rfindF x o+1) (o+1) (σ.set "j" (.int (o+1))):=⟨zX2 ei,qD⟩
 obtain h3:=h3.oth (y:="j") (v:=.int (o+1)) pi;generalize σ.set "j" (.int (o+1))=σ at h3 hij ⊢;refine zA ((zBh D I.iw h3 hij N (by cases r <;> exact J)).mono ?_);rintro f σ ⟨rfl,h3,⟨i,j,hij,hpre⟩,he⟩;refine qG (vJ (qO (
  zJ (σ':=⟨σ.h,[],[]⟩) (qQ (qAg bT)) (qE (
  qR (σ':=⟨σ.h,[],[]⟩) (jU (qB h3.code) (qB hij.i) (qB hij.j) (by rw[<- hpre];rfl):ev (T pp n).c (.slc "code" "i" "j") σ=.ok (.str pre) σ) (xX bT zAp) (qE (qK (qB h3.self) (by rw[h3.hp];exact D.fld bT pi I.tw rfl)) rfl) (by
   rw[bT.bl]
   show bapp "str.expandtabs" [.str pre,.int tw] _=_
   rw[qGb]
   exact d3 O)) rfl) (by
   rw[bT.bl,wL];rfl)) (qB he)) ⟨rfl,h3.hp⟩)
theorem qKb(h:Told H k d iw tw x gl 4 r2 fs)(hL:r2.s.stack.getLast?=some o)(D:kZ x o=some (pre,u))(F:tabOk pre tw):∃σ',(T pp (n+2)).app (.top (.ref 221)) [.ref k] H=.ok (.int ((expandT tw.toNat pre).length+(if u then iw else 0))) σ'/\σ'.h=H :=
 uW h pi (b:=zPx) (by rfl) λσ e1 e0=>qKc h e1 e0 hL D F
theorem zEb(u:ev (T pp n).c e σ=.ok (mtV r) σ):ev (T pp n).c (.cmp .IsNot e .none) σ=.ok (.bool r.isSome) σ:=kD u rfl (by cases r <;> rfl)
theorem zOp(u:ev (T pp n).c e σ=.ok (mtV r) σ):ev (T pp n).c (.cmp .Is e .none) σ=.ok (.bool r.isNone) σ:=kD u rfl (by cases r <;> rfl)
theorem qPk(D:ev (T pp n).c e σ=.ok (.str y) σ)(u:ev (T pp n).c f σ=.ok (.str z) σ):ev (T pp n).c (.cmp .NotIn e f) σ=.ok (.bool (!Txt.contains z y)) σ:=kD D u rfl
theorem qOk(h:Std H k d iw tw x gl c fs)(F:xF x gl=some r2){m:Option (Nat×Nat)}(hm:reAt closeC x [r2.a]=some m):∃σ',(T pp (n+3)).app (.top (.ref 256)) [.ref k] H=.ok (.bool m.isSome) σ'/\Kept H σ'.h d/\∃fs',Told σ'.h k d iw tw x gl c r2 fs':=by
 refine qAl (λH'=>Kept H H' d/\∃fs',Told H' k d iw tw x gl c r2 fs') pi (by rfl) rfl λσ h1 h2=>?_;have e1:σ.l.lookup ("self":Str)=some (.ref k):=by rw[h1];rfl
 obtain⟨a7,a1,a2,fs',u⟩:=qIm (pp:=pp) (n:=n) h F;rw[<- h2]at a1;refine ae h.st λJ I q=>zC (qR (qB e1) (by rw[h2];exact h.po.get bT (I.kx.m pi) (by rfl)) (xs:=[]) rfl a1) ?_;refine ae u.st λJ D q=>qG (vJ (zEb (σ:={ σ with h:=a7.h }) (zJ (σ':=⟨a7.h,[],[]⟩) (qQ (v:=.top (.ref 82)) (by rw[bT.gl];rfl)) (qE (qK (qB e1) (u.po.fld bT pi D.f2.code rfl)) (qE (qK (qB e1) (u.po.fld bT pi D.a rfl)) rfl)) ?_)) ⟨rfl,a2,fs',u⟩);rw[qPe (code:=closeC) (by rfl)];show kR closeC x [r2.a] _=_;rw[wV hm];rfl
theorem qVy(h:Told H k d iw tw x gl c r2 fs):∃σ',(T pp (n+2)).app (.top (.ref 263)) [.ref k] H=.ok (.tup (brkV r2.s.brk)) σ'/\σ'.h=H:=ae h.st λD u q=>uW h pi (b:=(.seq (.ret (qe "stmt_bracketing")) .nil)) (by rfl) λσ e1 e0=>qG (vJ (qK (qB e1) (by rw[e0];exact h.po.fld bT pi u.brk rfl)) ⟨rfl,e0⟩)
noncomputable def zKp:S:=(.loop 1000 (.and (.cmp .Lt "j" "n") (.cmp .In (.idx "code" "j") (.str " \t"))) (.seq (.a "j" (qf "j" 1)) .nil) .nil)
def zQp:S:=.seq (.asg2 "i" "n" (.tup (.cons (qe "stmt_start") (qc (qe "stmt_end"))))) (.seq (.a "j" "i") (.seq (.a "code" (qe "code")) (.seq zKp (.seq (.ret (.slc "code" "i" "j")) .nil))))
structure A4(x:Str)(a b:Int)(H:Hp)(j:Int)(σ:St):Prop where
 code:σ.l.lookup ("code":Str)=some (.str x)
 i:σ.l.lookup ("i":Str)=some (.int a)
 n:σ.l.lookup ("n":Str)=some (.int b)
 j:σ.l.lookup ("j":Str)=some (.int j)
 hp:σ.h=H
theorem zBb{j:Int}(h:A4 x a b H j σ)(u:qDa x b 1000 j=some F):Gd (ex zKp (T pp n) σ) λf σ'=>f=.next/\A4 x a b H F σ':=by
 refine xJ (λfuel σ=>∃j,A4 x a b H j σ/\qDa x b fuel j=some F) ⟨j,h,u⟩ ?_;rintro fuel σ ⟨j,h,u⟩;cases fuel with
 |zero=>cases u
 |succ fuel =>
 refine⟨fuel,rfl,?_⟩;obtain u:(if j<b then(signAt x j).bind λc=>if m6 " \t" c=true then qDa x b fuel (j+1)else some j else some j)=some F:=u;by_cases D:j<b
 .obtain u:=aw D u;refine px u λc hc u=>⟨_,σ,m6 " \t" c,(vK (qBx (qB h.j) (qB h.n)) λw=>qId (kN (z:="") h.code (qB h.j) hc) rfl).trans (by rw[e9 D,pY]),rfl,λe=>?_,λe=>?_⟩
  .obtain u:=aw e u;exact gd_sasg (qO (qB h.j) rfl) (qF ⟨j+1,⟨zX2 h.code,zX2 h.i,zX2 h.n,qD,h.hp⟩,u⟩)
  .replace u:=ao (by rw[e];decide) u;subst u;exact qF ⟨rfl,h⟩
 .replace u:=ao D u;subst u;exact⟨_,σ,false,(vK (q:=false) (qBx (qB h.j) (qB h.n)) λq=>d9 (j6 q) D).trans (by rw[k9 D]),rfl,λe=>(nomatch e),λw=>qF ⟨rfl,h⟩⟩
theorem qWc(h:Told H k d iw tw x gl c r2 fs)(J:qLh x r2.a r2.b=some y):∃σ',(T pp (n+2)).app (.top (.ref 242)) [.ref k] H=.ok (.str y) σ'/\σ'.h=H:=by
 refine ae h.st λN D q=>ae (qb J) λL F I=>?_;subst I;refine uW h pi (b:=zQp) (by rfl) λσ e1 e0=>qG (qHr (a0:=σ) (qAo (xs:=[.int r2.a,.int r2.b]) (qE (qK (qB e1) (by rw[e0];exact h.po.fld bT pi D.a rfl)) (qE (qK (qB e1) (by rw[e0];exact h.po.fld bT pi D.b rfl)) rfl)) (by show 2<=j0;decide)) ?_);obtain e2:=@qA (σ.set "i" (.int r2.a)) "n" "i" (.int r2.b) _ pi qD;have u:=@qD (σ.set "i" (.int r2.a)) "n" (.int r2.b);replace e1:=@qA (σ.set "i" (.int r2.a)) "n" "self" (.int r2.b) _ pi (zX2 e1);replace e0:((σ.set "i" (.int r2.a)).set "n" (.int r2.b)).h=H:=e0;generalize(σ.set "i" (.int r2.a)).set "n" (.int r2.b)=σ at e1 e2 u e0 ⊢;refine gd_sasg (qB e2) ?_;obtain e4:=@qD σ "j" (.int r2.a);obtain e1:=@qA σ "j" "self" (.int r2.a) _ pi e1;obtain e2:=@qA σ "j" "i" (.int r2.a) _ pi e2;obtain u:=@qA σ "j" "n" (.int r2.a) _ pi u;obtain e0:(σ.set "j" (.int r2.a)).h=H:=e0;generalize σ.set "j" (.int r2.a)=σ at e1 e2 u e4 e0 ⊢;refine gd_sasg (qK (qB e1) (by rw[e0];exact h.po.fld bT pi D.f2.code rfl)) ?_;obtain hA:A4 x r2.a r2.b H r2.a (σ.set "code" (.str x)):=⟨qD,zX2 e2,zX2 u,zX2 e4,e0⟩
 refine zA ((zBb hA F).mono ?_);rintro f σ' ⟨rfl,hA⟩;exact qG (vJ (jU (qB hA.code) (qB hA.i) (qB hA.j) rfl) ⟨rfl,hA.hp⟩)
noncomputable def zKj:S:=(.loop 1000 (.cmp .In (.idx "code" "i") (.str " \t")) (.seq (.a "i" (qf "i" 1)) .nil) .nil)
noncomputable def zJv:S:=(.loop 1000 (.cmp .NotIn (.idx "code" "i") (.str " \t\n")) (.seq (.a "i" (qf "i" 1)) .nil) .nil)
noncomputable def qQl:S:=.seq (.a "i" (qf "i" 1)) .nil
noncomputable def eqX:X:=(.and (.cmp .Eq "level" (.int 0)) (.and (.cmp .Eq "ch" (.str "=")) (.and (.or (.cmp .Eq "i" (.int 0)) (.cmp .NotIn (.idx "code" (.bin .Sub "i" (.int 1))) (.str "=<>!"))) (.cmp .NotEq (.idx "code" (qf "i" 1)) (.str "=")))))
def eqS:S:=.seq (.ite eqX (.seq (.a "found" (.int 1)) (.seq .brk .nil)) qQl) .nil
def zPy:S:=.seq (.ite (.cmp .Eq "ch" (.str "#")) (.seq .brk .nil) eqS) .nil
def zRd:S:=.seq (.ite (.or (.cmp .Eq "ch" (.str "\"")) (.cmp .Eq "ch" (.str "'"))) (.seq (.a "i" (.m (.call (.g "_match_stringre") (.cons "code" (.cons "i" (qc "endpos")))) "end" .nil)) .nil) zPy) .nil
def zSo:S:=.seq (.ite (.cmp .In "ch" (.str ")]}")) (.seq (.ite "level" (.seq (.a "level" (.bin .Sub "level" (.int 1))) .nil) .nil) qQl) zRd) .nil
def eqB:S:=.seq (.a "ch" (.idx "code" "i")) (.seq (.ite (.cmp .In "ch" (.str "([{")) (.seq (.a "level" (qf "level" 1)) qQl) zSo) .nil)
def eqL:S:=(.loop 1000 (.cmp .Lt "i" "endpos") eqB .nil)
noncomputable def zKw:S:=.seq (.ret (qf (.call (.g "len") (qc (.m (.slc "code" (qe "stmt_start") "i") "expandtabs" (qc (qe "tabwidth"))))) 1)) .nil
def zCy:S:=.seq (.ite (.not "found") (.seq (.a "i" "startpos") (.seq zJv .nil)) .nil) zKw
def zQn:S:=.seq (.ite "found" (.seq (.a "i" (qf "i" 1)) (.seq (.a "found" (.cmp .Is (.m (.g "_twin_re_7") "match" (qc (.slc "code" "i" "endpos"))) .none)) .nil)) .nil) zCy
def bsR:S:=.seq (.assert (.cmp .Eq (qe "continuation") (.g "C_BACKSLASH"))) (.seq (.a "code" (qe "code")) (.seq (.a "i" (qe "stmt_start")) (.seq zKj (.seq (.a "startpos" "i") (.seq (.a "endpos" (qf (.m "code" "find" (.cons (.str "\n") (qc "startpos"))) 1)) (.seq (.asgs "found" "level" (.int 0)) (.seq eqL zQn)))))))
theorem qPl:ev cx (.int i) σ=.ok (.int i) σ:=rfl
theorem zJw:ev cx (.str y) σ=.ok (.str y) σ:=rfl
structure A5(x:Str)(k:Nat)(H:Hp)(i:Int)(σ:St):Prop where
 self:σ.l.lookup ("self":Str)=some (.ref k)
 code:σ.l.lookup ("code":Str)=some (.str x)
 i:σ.l.lookup ("i":Str)=some (.int i)
 hp:σ.h=H
theorem zJl:∀y∈(["startpos","endpos","found","level","ch"]:List Str),∀z∈(["self","code","i"]:List Str),(z==y)=false:=pw
theorem A5.oth{i:Int}(h:A5 x k H i σ)(u:y∈(["startpos","endpos","found","level","ch"]:List Str)):A5 x k H i (σ.set y v):=by obtain a:=zJl y u;exact⟨qA (a _ pi) h.self,qA (a _ pi) h.code,qA (a _ pi) h.i,h.hp⟩
theorem A5.seti{i:Int}(h:A5 x k H i σ):A5 x k H i' (σ.set "i" (.int i')):=⟨zX2 h.self,zX2 h.code,qD,h.hp⟩
structure A6(sp e:Int)(f:V)(σ:St):Prop where
 start:σ.l.lookup ("startpos":Str)=some (.int sp)
 stop:σ.l.lookup ("endpos":Str)=some (.int e)
 found:σ.l.lookup ("found":Str)=some f
theorem zJk:∀y∈(["i","level","ch"]:List Str),∀z∈(["startpos","endpos","found"]:List Str),(z==y)=false:=pw
theorem A6.oth(h:A6 sp e f σ)(u:y∈(["i","level","ch"]:List Str)):A6 sp e f (σ.set y v):=by obtain a:=zJk y u;exact⟨qA (a _ pi) h.start,qA (a _ pi) h.stop,qA (a _ pi) h.found⟩
theorem qYr{j:Int}(h:A5 x k H i σ)(u:xO x 1000 i=some j):Gd (ex zKj (T pp n) σ) λf σ'=>f=.next/\A5 x k H j σ':=by
 refine xJ (λfuel σ=>∃i,A5 x k H i σ/\xO x fuel i=some j) ⟨i,h,u⟩ ?_;rintro fuel σ ⟨i,h,u⟩;cases fuel with
 |zero=>cases u
 |succ fuel =>
 refine⟨fuel,rfl,ae (pz (u)) λc hc u=>⟨_,σ,m6 " \t" c,qId (kN (z:="") h.code (qB h.i) hc) rfl,rfl,λq=>?_,λq=>?_⟩⟩
 .replace u:=aw q u;exact gd_sasg (qO (qB h.i) rfl) (qF ⟨i+1,h.seti,u⟩)
 .replace u:=ao (by rw[q];decide) u;subst u;exact qF ⟨rfl,h⟩
theorem qWk{j:Int}(h:A5 x k H i σ)(u:yR x 1000 i=some j):Gd (ex zJv (T pp n) σ) λf σ'=>f=.next/\A5 x k H j σ':=by
 refine xJ (λfuel σ=>∃i,A5 x k H i σ/\yR x fuel i=some j) ⟨i,h,u⟩ ?_;rintro fuel σ ⟨i,h,u⟩;cases fuel with
 |zero=>cases u
 |succ fuel =>
 refine⟨fuel,rfl,ae (pz (u)) λc hc u=>⟨_,σ,!Txt.contains " \t\n" c,qPk (kN (z:="") h.code (qB h.i) hc) rfl,rfl,λq=>?_,λq=>?_⟩⟩
 .replace u:=ao (by rw[fE]at q;rw[q];decide) u;exact gd_sasg (qO (qB h.i) rfl) (qF ⟨i+1,h.seti,u⟩)
 .replace u:=aw (by simpa using q) u;subst u;exact qF ⟨rfl,h⟩
theorem zNr(h:A5 x k H i σ)(D:σ.l.lookup ("level":Str)=some (.int lev))(hc:σ.l.lookup ("ch":Str)=some (.str ch))(u:eqF x i lev ch=some t):ev (T pp n).c eqX σ=.ok (.bool t) σ:=by
 obtain e1:=xK (cx:=(T pp n).c) (qB D) (show ev (T pp n).c (.int 0) σ=.ok (.int 0) σ from rfl);have e2:=jW (cx:=(T pp n).c) (qB hc) (show ev (T pp n).c (.str "=") σ=.ok (.str "=") σ from rfl);by_cases F:lev=0/\ch="="
 .replace u:=aw F u;obtain⟨rfl,rfl⟩:=F;obtain⟨p,hp,u⟩:=pz u;obtain e3:ev (T pp n).c (.or (.cmp .Eq "i" (.int 0)) (.cmp .NotIn (.idx "code" (.bin .Sub "i" (.int 1))) (.str "=<>!"))) σ=.ok (.bool p) σ:=by
   by_cases hi:i=0
   .replace hp:=aw hi hp;subst hp;subst hi;exact qGl (p:=true) (q:=true) (xK (cx:=(T pp n).c) (qB h.i) (qPl (i:=0))) λq=>nomatch q
   .replace hp:=ao hi hp;obtain⟨c,hc,rfl⟩:=qb hp;have:=qGl (q:=!Txt.contains "=<>!" c) (xK (cx:=(T pp n).c) (qB h.i) (qPl (i:=0))) (λw=>qPk (kN (z:="") h.code (kB (qB h.i) qPl) hc) zJw);rw[(beq_eq_false_iff_ne.mpr hi)]at this;exact this
  refine vK (p:=true) e1 λw=>vK (p:=true) e2 λw=>?_;cases p with
  |true=>exact vK (q:=t) e3 (λq=>by
   replace u:=aw q u
   obtain⟨d,hd,rfl⟩:=qb u
   exact zJy (kN (z:="") h.code (qO (qB h.i) qPl) hd) (zJw (y:="=")))
  |false =>replace u:=ao pi u;subst u;exact vK (q:=false) e3 λq=>nomatch q
 .replace u:=ao F u;subst u;by_cases D:lev=0
  .rw[(beq_eq_false_iff_ne.mpr λq=>F ⟨D,Str.eq_of q⟩)]at e2;subst D;exact vK (p:=true) e1 λw=>vK (q:=false) e2 λq=>nomatch q
  .rw[(beq_eq_false_iff_ne.mpr D)]at e1;exact vK (q:=false) e1 λq=>nomatch q
set_option tactic.hygienic true in
theorem zNq{i lev:Int}{r:Int×Bool}(h:A5 x k H i σ)(D:A6 sp e (.int 0) σ)(F:σ.l.lookup ("level":Str)=some (.int lev))(u:bsF x e 1000 i lev=some r):Gd (ex eqL (T pp n) σ) λf σ'=>f=.next/\A5 x k H r.1 σ'/\A6 sp e (.int (if r.2 then 1 else 0)) σ':=by
 refine xJ (λfuel σ=>∃i lev,A5 x k H i σ/\A6 sp e (.int 0) σ/\σ.l.lookup ("level":Str)=some (.int lev)/\bsF x e fuel i lev=some r) ⟨i,lev,h,D,F,u⟩ ?_;rintro fuel σ ⟨i,lev,h,D,F,u⟩;cases fuel with
 |zero=>cases u
 |succ fuel =>
 refine⟨fuel,rfl,_,σ,decide (i<e),qBx (qB h.i) (qB D.stop),rfl,λq=>?_,λq=>?_⟩
 .obtain u:(if i<e then(signAt x i).bind λch =>
   if m6 "([{" ch then bsF x e fuel (i+1) (lev+1)
   else if m6 ")]}" ch then bsF x e fuel (i+1) (if lev=0 then lev else lev-1)
   else if ch="\""\/ch="'"then(reAt stringC x [i,e]).bind λr=>r.bind λm=>bsF x e fuel (m.2:Nat) lev
   else if ch="#"then some (i,false)
   else(eqF x i lev ch).bind λt=>if t then some (i,true)else bsF x e fuel (i+1) lev
   else some (i,false))=some r:=u
  replace u:=aw (j6 q) u;refine px u λch hc u=>gd_sasg (kN (z:="") h.code (qB h.i) hc) ?_;obtain hch:=@qD σ "ch" (.str ch);replace h:=h.oth (y:="ch") (v:=.str ch) pi;replace D:=D.oth (y:="ch") (v:=.str ch) pi;replace F:=@qA σ "ch" "level" (.str ch) _ pi F;generalize σ.set "ch" (.str ch)=σ at h D F hch ⊢;have next:∀(σ:St)(I:Int),A5 x k H i σ->A6 sp e (.int 0) σ->σ.l.lookup ("level":Str)=some (.int I)->bsF x e fuel (i+1) I=some r->Gd (ex qQl (T pp n) σ) (LQ (λσ=>∃i lev,A5 x k H i σ/\A6 sp e (.int 0) σ/\σ.l.lookup ("level":Str)=some (.int lev)/\bsF x e fuel i lev=some r) λf σ'=>f=.next/\A5 x k H r.1 σ'/\A6 sp e (.int (if r.2 then 1 else 0)) σ'):=
   λσ I a b c u=>gd_sasg (qO (qB a.i) rfl) (qF ⟨i+1,I,a.seti,b.oth pi,zX2 c,u⟩)
  have tail:∀{b:S}{σ:St}{Q:Fl->St->Prop},Gd (ex b (T pp n) σ) Q->Gd (ex b (T pp n) σ) (qDw .nil (T pp n) Q):=λg=>g.mono λf σ' w=>by
   cases f with
   |next=>exact qF w
   |_=>exact w
  refine yC (qId (qB hch) rfl) (λX=>tail ?_) λX=>tail ?_
  .replace u:=aw X u;exact gd_sasg (qO (qB F) rfl) (next _ (lev+1) (h.oth pi) (D.oth pi) qD u)
  replace u:=ao (by rw[X];decide) u;refine yC (qId (qB hch) rfl) (λV=>tail ?_) λV=>tail ?_
  .replace u:=aw V u;by_cases O:lev=0
   .rw[d3 O]at u;exact qG (jP (qB F) (t:=false) (by rw[O];rfl) (λz=>nomatch z) λj=>qF (next _ lev h D F u))
   .rw[b6 O]at u;exact qG (jP (qB F) (t:=true) (by show some (lev != 0)=_;rw[bne_iff_ne.mpr O]) (λj=>gd_sasg (kB (qB F) rfl) (qF (next _ (lev-1) (h.oth pi) (D.oth pi) qD u))) λz=>nomatch z)
  replace u:=ao (by rw[V];decide) u;have J:∀z:Str,(ch.cps.toList==z.cps.toList)=true ↔ ch=z:=λz=>⟨λw=>Str.eq_of (eU w),λw=>by rw[w];exact gE _⟩
  refine yC (qGl (jW (qB hch) rfl) λj=>jW (qB hch) rfl) (λU=>tail ?_) λU=>tail ?_
  .rw[eS,J,J]at U;obtain u:=aw U u;refine px u λr0 Z u=>ae (pz u) λm a0 u=>?_;subst a0;exact gd_sasg (qPo (p:=m.1) (e:=m.2) (qWm (b:=80) (code:=stringC) (by rfl) (by rfl) h.code (qB h.i) (qB D.stop) Z)) (qF ⟨(m.2:Nat),lev,h.seti,D.oth pi,zX2 F,u⟩)
  have L:¬(ch="\""\/ch="'"):=λw=>by rw[<- J,<- J,<- eS,U]at w;exact zF1 w
  replace u:=ao L u;refine yC (jW (qB hch) rfl) (λN=>tail ?_) λN=>tail ?_
  .obtain u:=aw ((J _).mp N) u;clear L J tail next F hch
   subst u;exact qG (Mine.Lake.gd_brk ⟨rfl,h,D⟩)
  replace u:=ao (λw=>by rw[<- J]at w;rw[w]at N;exact zT1 N) u;refine px u λt ht u=>yC (zNr h F hch ht) (λY=>tail ?_) λY=>tail ?_
  .replace u:=aw Y u;clear L J tail next F hch
   subst u;exact gd_sasg (v:=.int 1) rfl (qG (Mine.Lake.gd_brk ⟨rfl,h.oth pi,zX2 D.start,zX2 D.stop,qD⟩))
  .obtain u:=ao (by rw[Y];decide) u;exact next σ lev h D F u
 .obtain u:(if i<e then _ else some (i,false))=some r:=u;replace u:=ao (w5 q) u;subst u;exact qF ⟨rfl,h,D⟩
theorem zDi:bapp "re.Pattern.match" [p,v] H=((hN p).bind qZy).elim .bad λcode=>uE code v H:=rfl
theorem zOl(u:ev (T pp n).c z σ=.ok (.str y) σ)(hm:reAt bs7C y []=some m):ev (T pp n).c (.m (.g "_twin_re_7") "match" (.cons z .nil)) σ=.ok (mtV m) σ:=by
 refine qR (σ':=⟨σ.h,[],[]⟩) (vo:=.top (.ref 73)) (vf:=.top (.builtin "re.Pattern.match")) (first:=[.top (.ref 73)]) (qQ (by rw[bT.gl];rfl)) ?_ (qE u rfl) ?_
 .rw[bT.get];show patM (G09 pp) "match" 73=_;refine ax rfl ?_;rfl
 .rw[bT.bl];show bapp "re.Pattern.match" [.top (.ref 73),.str y] _=_;rw[zDi];show kR bs7C y [] _=_;rw[wV hm];rfl
theorem zOm(D:ev (T pp n).c a σ=.ok v σ)(u:truV σ.h v=some b):ev (T pp n).c (.not a) σ=.ok (.bool !b) σ:=by rw[zIl,Rs.bind_ok D,u]
theorem qQe(h:Told H k d iw tw x gl c r2 fs)(h5:A5 x k H i σ)(D:tabOk (zH x r2.a i) tw):Gd (ex zKw (T pp n) σ) λf σ'=>retR f σ'=.ok (.int (((expandT tw.toNat (zH x r2.a i)).length:Nat)+1)) σ'/\σ'.h=H:=by
 refine ae h.st λF u q=>?_;exact qG (vJ (qO (
  zJ (σ':=⟨σ.h,[],[]⟩) (qQ (qAg bT)) (qE (
  qR (σ':=⟨σ.h,[],[]⟩) (jU (qB h5.code) (qK (qB h5.self) (by rw[h5.hp];exact h.po.fld bT pi u.a rfl)) (qB h5.i) rfl) (xX bT zAp) (qE (qK (qB h5.self) (by rw[h5.hp];exact h.po.fld bT pi u.f2.tw rfl)) rfl) (by
   rw[bT.bl]
   show bapp "str.expandtabs" [.str (zH x r2.a i),.int tw] _=_
   rw[qGb]
   exact d3 D)) rfl) (by
   rw[bT.bl,wL];rfl)) rfl) ⟨rfl,h5.hp⟩)
theorem last_run{u:Int×Bool}(h:Told H k d iw tw x gl c r2 fs)(h5:A5 x k H u.1 σ)(D:A6 sp e f σ)(I:truV σ.h f=some u.2)(hi:(if u.2 then some u.1 else yR x 1000 sp)=some i)(F:tabOk (zH x r2.a i) tw):Gd (ex zCy (T pp n) σ) λf σ'=>retR f σ'=.ok (.int (((expandT tw.toNat (zH x r2.a i)).length:Nat)+1)) σ'/\σ'.h=H:=by
 refine qN (zOm (qB D.found) I) (λq=>?_) λq=>?_
 .obtain hi:=ao (by rw[fE]at q;rw[q];decide) hi;refine gd_sasg (qB D.start) (zA ((qWk (h5.seti (i':=sp)) hi).mono ?_));rintro f σ' ⟨rfl,h'⟩;exact qF (qQe h h' F)
 .replace hi:=aw (by simpa using q) hi;subst hi;exact qQe h h5 F
theorem zJa(h:Told H k d iw tw x gl 1 r2 fs)(D:uU x r2.a=some y)(J:tabOk y tw):∃σ',(T pp (n+2)).app (.top (.ref 235)) [.ref k] H=.ok (.int (((expandT tw.toNat y).length:Nat)+1)) σ'/\σ'.h=H:=by
 refine ae h.st λL I z=>ae (pz D) λsp h1 D=>?_;refine px D λr h2 D=>ae (pz D) λu h3 D=>ae (qb D) λi h4 F=>?_;subst F;refine uW h pi (b:=bsR) (by rfl) λσ e1 e0=>qT ?_ ?_
 .rw[xK (qK (qB e1) (by rw[e0];exact h.po.fld bT pi I.f2.cont rfl)) (qQ (zHs bT))];rfl
 refine gd_sasg (qK (qB e1) (by rw[e0];exact h.po.fld bT pi I.f2.code rfl)) ?_;obtain e2:=@qD σ "code" (.str x);obtain e1:=@qA σ "code" "self" (.str x) _ pi e1;obtain e0:(σ.set "code" (.str x)).h=H:=e0;generalize σ.set "code" (.str x)=σ at e1 e2 e0 ⊢;refine gd_sasg (qK (qB e1) (by rw[e0];exact h.po.fld bT pi I.a rfl)) ?_;obtain h5:A5 x k H r2.a (σ.set "i" (.int r2.a)):=⟨zX2 e1,zX2 e2,qD,e0⟩
 generalize σ.set "i" (.int r2.a)=σ at h5 ⊢;refine zA ((qYr h5 h1).mono ?_);rintro f σ ⟨rfl,h5⟩;refine gd_sasg (qB h5.i) ?_;obtain e3:=@qD σ "startpos" (.int sp);obtain h5:=h5.oth (y:="startpos") (v:=.int sp) pi;generalize σ.set "startpos" (.int sp)=σ at h5 e3 ⊢;refine gd_sasg (qO (qPm h5.code (qB e3)) rfl) ?_;obtain e4:=@qD σ "endpos" (.int (dF x nlT sp+1));obtain e3:=@qA σ "endpos" "startpos" (.int (dF x nlT sp+1)) _ pi e3;obtain h5:=h5.oth (y:="endpos") (v:=.int (dF x nlT sp+1)) pi;generalize σ.set "endpos" (.int (dF x nlT sp+1))=σ at h5 e3 e4 ⊢;generalize dF x nlT sp+1=e at h2 h3 e4;refine qG (uP (v:=.int 0) rfl ?_);obtain h6:A6 sp e (.int 0) ((σ.set "found" (.int 0)).set "level" (.int 0)):=⟨zX2 (zX2 e3),zX2 (zX2 e4),zX2 qD⟩
 refine zA ((zNq ((h5.oth (y:="found") (v:=.int 0) pi).oth (y:="level") (v:=.int 0) pi) h6 qD h2).mono ?_);rintro f σ ⟨rfl,h5,h6⟩;refine zA (jP (qB h6.found) (t:=r.2) (by cases r.2 <;> rfl) (λq=>?_) λq=>?_)
 .replace h3:=aw q h3;refine qa h3 λm hm F=>?_;subst F;refine gd_sasg (qO (qB h5.i) rfl) ?_;obtain h5:=h5.seti (i':=r.1+1);obtain h6:=h6.oth (y:="i") (v:=.int (r.1+1)) pi;generalize σ.set "i" (.int (r.1+1))=σ at h5 h6 ⊢;exact gd_sasg (zOp (zOl (jU (qB h5.code) (qB h5.i) (qB h6.stop) rfl) hm)) (qF (last_run (sp:=sp) (e:=e) (f:=.bool m.isNone) h (h5.oth pi) ⟨zX2 h6.start,zX2 h6.stop,qD⟩ rfl h4 J))
 .replace h3:=ao (by rw[q];decide) h3;subst h3;refine qF (last_run (u:=(r.1,false)) (f:=.int 0) (sp:=sp) (e:=e) h h5 ?_ rfl h4 J);rw[q]at h6;exact h6
end Mine.Lake.L09
namespace Mine.Lake.Re
open PySem PySem.Sre
def qEf(t:Array Nat)(p q:Nat):Ln:=(t.toList.drop p).take (q-p)
structure At(t:Array Nat)(q p:Nat)(l:Ln):Prop where
 eq:qEf t p q=l
 le:p<=q
 sz:q<=t.size
theorem At.self(h:p<=q)(u:q<=t.size):At t q p (qEf t p q):=⟨rfl,h,u⟩
theorem qKv(h:p<q)(u:q<=t.size):qEf t p q=t.getD p 0::qEf t (p+1) q:=by
 unfold qEf;obtain hp:p<t.toList.length:=by simp only[h9];exact g9 h u
 obtain⟨k,hk⟩:∃k,q-p=k+1:=⟨q-p-1,dx h⟩
 simp only[dM hp,hk,eR,dy hk];congr 1;simp only[fZ,eY (by rw[h9]at hp;exact hp)];rfl
section
variable{t:Array Nat}{q p:Nat}{l:Ln}{f:Nat->Bool}
theorem At.nil(h:At t q p []):p=q:=by refine eW h.le (Nat.not_lt.mp λz=>?_);have:=h.eq;rw[qKv z h.sz]at this;cases this
theorem At.cons(h:At t q p (d::l)):p<q/\t.getD p 0=d/\At t q (p+1) l:=by
 have u:p<q:=fB h.le λz=>by have:=h.eq;rw[z]at this;unfold qEf at this;rw[gU,pR]at this;exact nomatch this
 have:=h.eq;rw[qKv u h.sz]at this;injection this with e1 e2
 exact⟨u,e1,e2,u,h.sz⟩
theorem At.len(h:At t q p l):p+l.length=q:=by simp only[<- h.eq];unfold qEf;simp only[w9,t3,h9];have:=h.le;have:=h.sz;lia
theorem At.spn:∀{l:Ln}{p:Nat},At t q p l->spn f t (q-p) p=(l.takeWhile f).length/\At t q (p+(l.takeWhile f).length) (l.dropWhile f):=by
 intro F;induction F with
 |nil =>intro p h;obtain e:=h.nil;subst e;rw[gU];exact⟨rfl,h⟩
 |cons d l D =>
  intro p h;refine bg h.cons λh1 h2 h3=>?_;obtain⟨k,hk⟩:∃k,q-p=k+1:=⟨q-p-1,by exact dx h1⟩
  rw[(by
   rw[hk,show q-(p+1)=k by exact dy hk,<- h2];rfl:Re.spn f t (q-p) p=if f d then Re.spn f t (q-(p+1)) (p+1)+1 else 0),cC,v1]
  by_cases u:f d=true
  .rw[d3 u,d3 u,d3 u];refine bo (D h3) λi1 i2=>⟨by rw[i1];rfl,?_⟩;rw[g5,m7 _ 1,<- i7];exact i2
  .rw[b6 u,b6 u,b6 u];exact⟨rfl,h⟩
theorem At.run(h:At t q p l):∀i,i<(l.takeWhile f).length->f (t.getD (p+i) 0):=by
 induction l generalizing p with
 |nil=>exactλi hi=>d9 hi (dD _)
 |cons d l D =>
  intro i hi;refine bg h.cons λh1 h2 h3=>?_;rw[cC]at hi;by_cases u:f d=true
  .rw[d3 u]at hi;cases i with
   |zero=>rw[oJ,h2];exact u
   |succ i=>rw[show p+(i+1)=p+1+i by exact gN (i8 _ 1 _)];exact D h3 i (dZ hi)
  .rw[b6 u]at hi;exact d9 hi (dD _)
end
theorem vW{l:Ln}{r:Ln}(h:l.dropWhile f=d::r):f d=false:=by
 induction l with
 |nil=>cases h
 |cons a l D =>
  rw[v1]at h;by_cases u:f a=true
  .rw[d3 u]at h;exact D h
  .rw[b6 u]at h;injection h with h1 h2
   rw[<- h1];exact gF _▸u
def zLc(c:Cv)(t:Nat)(lp:Array mY)(inn:Option Nat)(K pos:Nat):Prop:=∀(hd:Nat)(om:Bool)(fs:List v9)(sn:Seen)(Q:M->Prop)(k:Nat),fs.length<100->(∀J u F D I,Reach (Ms c J u F D fs lp inn (some false) I) Q k)->Reach (Ms c t pos hd om fs lp inn none sn) Q (k+K)
theorem room(h:fs.length<n)(u:n<=10000):uX fs:=g9 h u
theorem uN(R:RepAt c.code pc w N f)(V:pc+1+w=t)(L:fs.length<99)(X:∀pos,pos<c.lim->f (c.text.getD pos 0)->zLc c t lp inn K pos)(T:∀I u F D J,Reach (Ms c I u F D fs lp inn (some false) J) Q k):∀(n pos O U hd:Nat)(om S:Bool)(sn:Seen),pos<=c.lim->n<=pos->(∀i,i<n->f (c.text.getD (pos-n+i) 0)) ->
   Reach (Ms c O U hd S (Mf .giveBack pc pos om n kw 0 none::fs) lp inn (some false) sn) Q (k+(n+1)*(K+1)):=by
 intro n;induction n with
 |zero =>intro pos O U hd om S sn h1 h2 h3;refine Reach.mono (zQv R V (room L pi) (λq=>T ..) λm hm=>d9 hm (by simp)) (by simp)
 |succ n Y =>intro pos O U hd om S sn h1 h2 h3;refine Reach.mono (k:=k+(n+1)*(K+1)+K+1) (zQv R V (room L pi) (λz=>d9 z (by simp)) λm hm=>?_) (by rw[Nat.succ_mul (n+1)];simp +arith);obtain rfl:=mQ hm;exact X (pos-1) (by exact jm h1 h2) (by have:=h3 n (s9 n);rw[show pos-(n+1)+n=pos-1 by exact jn h2]at this;exact this) _ _ _ _ _ _ (by rw[g5];exact v7 L) λI u F D J=>Y _ _ _ _ _ _ _ (by exact b7 (gH _ 1) h1) (by exact fF h2) λi hi=>by have:=h3 i (by exact m3 hi);rw[show pos-(n+1)+i=pos-1-n+i by exact jo]at this;exact this
end Mine.Lake.Re
namespace Mine.Lake.L09
open PySem PySem.Sre Mine.Lake.Re
noncomputable def och(c:Nat):Bool:=!(decide (c<256)&&(chewC.getD (12+(1+c/32)) 0).testBit (c%32))
theorem zDr(c:Nat)(sn:Seen):∃u,accepts chewC 9 c sn=.ok (och c,u):=by
 obtain e:accepts chewC 9 c sn=if(decide (c<256)&&(chewC.getD (12+(1+c/32)) 0).testBit (c%32))=true then .ok (false,(sn.add 21).add 9)else .ok (true,((sn.add 21).add 9).add 0):=rfl;rw[e];unfold och;by_cases h:(decide (c<256)&&(chewC.getD (12+(1+c/32)) 0).testBit (c%32))=true
 .rw[d3 h,h];exact⟨_,rfl⟩
 .rw[b6 h,(gF _).mp h];exact⟨_,rfl⟩
def m0(code text:Array Nat)(pos lim:Nat):M:=Ms ⟨code,text,lim,pos⟩ (header code).2 pos pos true [] #[] none none (if(header code).2==0 then{}else({}:Seen).add 14)
theorem zPm{code:Array Nat}(h:pos+(header code).1<=lim):forMatch code text 0 pos lim false false=m0 code text pos lim:=by show(if((header code).1 != 0&&decide (pos<=lim)&&decide (lim-pos<(header code).1))=true then(m0 code text pos lim).say false else m0 code text pos lim)=_;rw[b6];rw[i6,n8];exactλq=>Nat.not_lt.mpr (lU h) q.2
theorem zCs(D:p<q)(J:q<4294967295)(L:spn och t (q-p) p=n):qS chewC t p q=some (if n=0 then none else some (p,p+n)):=by
 refine bf (qQd (text:=t) zDr (min 4294967295 (q-p)) p 0 (((({}:Seen).add 14).add 24).add 13)) λsn F=>?_;have hm:min 4294967295 (q-p)=q-p:=dX (b7 (gH _ _) (m9 J));rw[hm,fJ,L]at F;obtain e2:(m0 chewC t p q).step=if n<1 then M.say { m0 chewC t p q with seen:=sn } false else rB { m0 chewC t p q with seen:=sn,pos:=p+n } .giveBack n {}:=by
  have:(m0 chewC t p q).step=if((1:Nat):Int)>(q:Int)-(p:Int)then M.say { m0 chewC t p q with seen:=(m0 chewC t p q).seen.add 24 } false else
    match Sre.run chewC t 9 (min 4294967295 ((q:Int)-(p:Int)).toNat) p 0 (((({}:Seen).add 14).add 24).add 13)with
    | .error I=>M.stick { m0 chewC t p q with seen:=(m0 chewC t p q).seen.add 24 } I
    | .ok (n,seen)=>if n<1 then M.say { m0 chewC t p q with seen:=seen } false else rB { m0 chewC t p q with seen:=seen,pos:=p+n } .giveBack n {}:=rfl
  rw[this,b6 (by exact jp D),(by simp:((q:Int)-(p:Int)).toNat=q-p),hm,F]
 unfold qS zAs;rw[(zPm (D)),show(20000:Nat)=4+19996 from rfl,xA];by_cases u:n=0
 .subst u;rw[(by
   show v3 3 (m0 chewC t p q).step=_
   rw[e2];rfl:v3 4 (m0 chewC t p q)=v3 3 (M.say { m0 chewC t p q with seen:=sn } false)),zB (by rfl)]
  rfl
 .rw[(by
   show v3 3 (m0 chewC t p q).step=_
   rw[e2,b6 (λq=>u (Nat.lt_one_iff.mp q))]:v3 4 (m0 chewC t p q)=v3 3 (rB { m0 chewC t p q with seen:=sn,pos:=p+n } .giveBack n {})),zB (by rfl),b6 u]
  rfl
theorem zIz{l:Ln}(h:At t q p (d::l))(u:q<4294967295):qS chewC t p q=some (if((d::l).takeWhile och).length=0 then none else some (p,p+((d::l).takeWhile och).length)):=
 zCs h.cons.1 u h.spn.1
noncomputable def blk(c:Nat):Bool:=c==32||c==9
noncomputable def itc(c:Nat):Bool:=!(j8 c||c==35||c==92)
theorem qRt{code:Array Nat}(h:∀ch sn,accepts code i ch sn=if(ch==32)then .ok (true,sn.add 16)else if(ch==9)then .ok (true,(sn.add 16).add 16)else .ok (false,((sn.add 16).add 16).add 0))(ch:Nat)(sn:Seen):∃u,accepts code i ch sn=.ok (blk ch,u):=by
 rw[h];unfold blk;cases h1:ch==32 with
 |true=>exact⟨_,rfl⟩
 |false=>cases h2:ch==9 with
  |true=>exact⟨_,rfl⟩
  |false=>exact⟨_,rfl⟩
theorem qJc:RepAt itemC 5 11 4294967295 blk:=⟨by decide,by rfl,by rfl,by rfl,by rfl,qRt λch sn=>rfl⟩
theorem qLn(ch:Nat)(sn:Seen):∃u,accepts itemC 17 ch sn=.ok (itc ch,u):=by
 obtain e:accepts itemC 17 ch sn=if(j8 ch != (12%2==1))then .ok (false,((sn.add 21).add 8).add 67)else if(ch==35)then .ok (false,(((sn.add 21).add 8).add 67).add 16)else if(ch==92)then .ok (false,((((sn.add 21).add 8).add 67).add 16).add 16)else .ok (true,(((((sn.add 21).add 8).add 67).add 16).add 16).add 0):=rfl;simp only[e];unfold itc;cases D:j8 ch with
 |true=>exact⟨_,rfl⟩
 |false=>cases h1:ch==35 with
  |true=>exact⟨_,rfl⟩
  |false=>cases h2:ch==92 with
   |true=>exact⟨_,rfl⟩
   |false=>exact⟨_,rfl⟩
def itemE(l:Ln):Option Nat:=(l.dropWhile blk).head?.bind λc=>if itc c then some ((l.takeWhile blk).length+1)else none
theorem zJc(h:blk c):itc c=false:=by rcases(eS _ _▸h:_\/_)with e|e <;> (rw[eU e];rfl)
theorem zHo(h:At t q p l)(L:q<1000):qS itemC t p q=some ((itemE l).map λk=>(p,p+k)):=by
 cases l with
 |nil=>exact kY pi h.le (by rw[h.nil,gU];decide)
 |cons d r =>
 generalize S:d::r=l at h;obtain hpq:p<q:=by rw[<- S]at h;exact h.cons.1
 have O:=match_of (code:=itemC) (text:=t) (p:=p) (q:=q) (r:=(itemE l).map (p + ·)) (by exact hpq) λsn=>?_
 .refine O.trans ?_;cases itemE l <;> rfl
 refine bo (h.spn (f:=blk)) λT s2=>?_;obtain hlen:=h.len;obtain hle:(l.takeWhile blk).length<=l.length:=lR (lS _);refine Reach.mono (k:=5000) (wM (c:=⟨itemC,t,q,p⟩) qJc h.le (t:=17) rfl (n:=(l.takeWhile blk).length) (by rw[(dX (by exact b7 (gH _ _) (bk L)))];exact T) (by show 0<10000;decide) λsn=>?_) pi;obtain fail:∀{I u F:Nat}{D:Bool}{J:Seen},itemE l=none->Reach (Ms ⟨itemC,t,q,p⟩ I u F D [Mf .giveBack 5 (p+(l.takeWhile blk).length) true (l.takeWhile blk).length false 0 none] #[] none (some false) J) (EndS p ((itemE l).map (p + ·))) 4990:=λe=>by
  rw[e];refine Reach.mono (uN (K:=2) (k:=1) qJc rfl pi (λpos h1 h2 hd om fs sn Q k U hk=>Reach.mono (qGk (c:=⟨itemC,t,q,p⟩) (w:=13) (a:=10) (b:=itc (t.getD pos 0)) (by show 17<itemC.size;decide) (by rfl) pi (by rfl) (λy sn=>qLn _ sn) (λy z=>by rw[zJc h2]at z;exact zF1 z) λy sn=>hk ..) (n5 (k+1) 1)) (λy y y y y=>qIc) _ _ _ _ _ _ _ _ (by exact hlen▸e6 hle _) (t4 _ _) λi hi=>?_) (by have:((l.takeWhile blk).length+1)*(2+1)<=1001*3:=fH _ (by exact ez L hlen hle);exact b7 (e6 this 1) pi)
  .have:=h.run (f:=blk) i hi;rw[show p+(l.takeWhile blk).length-(l.takeWhile blk).length+i=p+i by exact dg];exact this
 refine qGk (c:=⟨itemC,t,q,p⟩) (k:=4998) (w:=13) (a:=10) (b:=itc (t.getD (p+(l.takeWhile blk).length) 0)) (by show 17<itemC.size;decide) (by rfl) pi (by rfl) (λy sn=>qLn _ sn) (λh1 h2 sn=>?_) λN sn=>?_
 .rw[(by
   unfold itemE
   cases hd:l.dropWhile blk with
   |nil=>rw[hd]at s2;exact d9 s2.nil (n3 h1)
   |cons c r =>
    rw[hd]at s2
    rw[s2.cons.2.1]at h2
    exact ax h2 rfl:itemE l=some ((l.takeWhile blk).length+1))]
  refine qAn (k:=4997) (by show 27<itemC.size;decide) (by rfl) λsn=>?_;rw[show(some ((l.takeWhile blk).length+1)).map (p + ·)=some (p+(l.takeWhile blk).length+1)from rfl];exact Reach.mono (R_yes (by rfl)) (by show 2<=4997;decide)
 .refine Reach.mono (fail ?_) pi;unfold itemE;cases hd:l.dropWhile blk with
  |nil=>rfl
  |cons c r =>rw[hd]at s2;exact bg s2.cons λa1 a2 y=>bc (λz=>N ⟨a1,by rw[a2];exact z⟩) rfl
theorem qGj{code:Array Nat}(h:∀ch sn,accepts code i ch sn=if(j8 ch != (12%2==1))then .ok (true,(sn.add 8).add 67)else .ok (false,((sn.add 8).add 67).add 0))(ch:Nat)(sn:Seen):∃u,accepts code i ch sn=.ok (j8 ch,u):=by
 rw[h];cases D:j8 ch with
 |true=>exact⟨_,rfl⟩
 |false=>exact⟨_,rfl⟩
theorem qZs:RepAt bs7C 5 9 4294967295 j8:=⟨by decide,by rfl,by rfl,by rfl,by rfl,qGj λch sn=>rfl⟩
noncomputable def bsE(l:Ln):Bool:=(l.dropWhile j8).head?==some 92
theorem qBz(l:Ln):(l.takeWhile f).length<=l.length:=lR (lS _)
theorem qKp(l:Ln):(l.dropWhile f).length<=l.length:=lR (List.dropWhile_sublist _)
theorem kI(u:q<1000):min 4294967295 (q-p)=q-p:=dX (b7 (gH _ _) (bk u))
theorem zQm(h:At t q p l)(u:q<1000):∃r,qS bs7C t p q=some r/\r.isSome=bsE l:=by
 cases l with
 |nil=>exact⟨none,kY pi h.le (by rw[h.nil,gU];decide),rfl⟩
 |cons d r =>
 generalize I:d::r=l at h;obtain hpq:p<q:=by rw[<- I]at h;exact h.cons.1
 have F:=match_of (code:=bs7C) (text:=t) (p:=p) (q:=q) (r:=if bsE l then some (p+(l.takeWhile j8).length+1)else none) (hpq) λsn=>?_
 .refine⟨_,F,?_⟩;by_cases e:bsE l=true
  .rw[d3 e,e];rfl
  .rw[b6 e,gF _ |>.mp e];rfl
 obtain⟨J,s2⟩:=h.spn (f:=j8);obtain hlen:=h.len;obtain hle:=qBz (f:=j8) l;refine Reach.mono (k:=5000) (wM (c:=⟨bs7C,t,q,p⟩) qZs h.le (t:=15) rfl (n:=(l.takeWhile j8).length) (by rw[kI u];exact J) (by show 0<10000;decide) λsn=>xD (c:=⟨bs7C,t,q,p⟩) (k:=4998) (d:=92) (by show 15<bs7C.size;decide) (by rfl) (by rfl) (λh1 h2 sn=>?_) λD sn=>?_) pi
 .rw[d3 (by
   unfold bsE
   cases hd:l.dropWhile j8 with
   |nil=>rw[hd]at s2;exact d9 s2.nil (n3 h1)
   |cons c r=>rw[hd]at s2;rw[s2.cons.2.1]at h2;rw[h2];rfl)]
  exact qAn (k:=4997) (by show 17<bs7C.size;decide) (by rfl) λsn=>Reach.mono (R_yes (by rfl)) (by show 2<=4997;decide)
 .rw[b6 (by
   unfold bsE
   cases hd:l.dropWhile j8 with
   |nil=>exactλz=>zF1 z
   |cons c r =>
    rw[hd]at s2
    exactλz=>D ⟨s2.cons.1,s2.cons.2.1.trans (b5 (eU z))⟩)]
  refine Reach.mono (uN (K:=2) (k:=1) qZs rfl pi (λpos h1 h2 hd om fs sn Q k L hk=>?_) (λw w w w w=>qIc) _ _ _ _ _ _ _ _ (hlen▸e6 hle _) (t4 _ _) λi hi=>?_) (by have:((l.takeWhile j8).length+1)*(2+1)<=1001*3:=fH _ (ez u hlen hle);exact b7 (e6 this 1) pi)
  .exact Reach.mono (xD (c:=⟨bs7C,t,q,p⟩) (d:=92) (by show 15<bs7C.size;decide) (by rfl) (by rfl) (λw z=>by rw[show t.getD pos 0=92 from z]at h2;exact d9 h2 pi) λw sn=>hk ..) (n5 (k+1) 1)
  .have:=h.run (f:=j8) i hi;rw[show p+(l.takeWhile j8).length-(l.takeWhile j8).length+i=p+i by exact dg];exact this
noncomputable def closeWs:List (Ln):=[[114,101,116,117,114,110],[98,114,101,97,107],[99,111,110,116,105,110,117,101],[114,97,105,115,101],[112,97,115,115]]
noncomputable def zIs(l:Ln):Bool:=match l with
 | []=>true
 |d::_=>!isWordUni d
def qOe(l:Ln)(ws:List (Ln)):Bool:=ws.any λw=>w.isPrefixOf l&&zIs (l.drop w.length)
def wJ(l:Ln):Bool:=qOe (l.dropWhile j8) closeWs
section
variable{l:Ln}
theorem zNe:∀{w l:Ln}{p:Nat},At t q p l->vB t q p w=w.isPrefixOf l:=by
  intro D;induction D with
  |nil=>intro _ _ _;cases‹Ln› <;> rfl
  |cons d w u =>
   exact@fun
   | [],p,h=>by show(decide (p<q)&&t.getD p 0==d&&vB t q (p+1) w)=false;rw[h.nil,k9 (fP _)];rfl
   |c::l,p,h=>by
    refine bg h.cons λh1 h2 h3=>?_;show(decide (p<q)&&t.getD p 0==d&&vB t q (p+1) w)=(d==c&&w.isPrefixOf l)
    rw[e9 h1,h2,u h3,pY,Bool.beq_comm]
theorem At.skip:∀(n:Nat){l:Ln}{p:Nat},At t q p l->n<=l.length->At t q (p+n) (l.drop n):=by
  intro D;induction D with
  |zero=>exact@λz z h z=>h
  |succ n u =>
   exact@fun
   | [],_,_,hn=>d9 hn (bY _)
   |d::l,p,h,hn=>by rw[show p+(n+1)=p+1+n by exact gN (i8 _ 1 _)];exact u h.cons.2.2 (r7 hn)
theorem qHb{w:Ln}(h:w.isPrefixOf l):w.length<=l.length:=(List.isPrefixOf_iff_prefix.mp h).length_le
theorem zGo{w:Ln}(h:At t q p l)(D:w.isPrefixOf l)(u:w≠[]):t.getD (p+w.length-1) 0=w.getLast u:=by
 obtain⟨r,F⟩:=List.isPrefixOf_iff_prefix.mp D;obtain h2:=At.skip (w.length-1) h (by have:=qHb D;exact b7 (gH _ 1) this);rw[(by
  rw[<- F,(by
   rw[<- List.singleton_append,<- u3,bF u]:w++r=w.dropLast++(w.getLast u::r))]
  exact List.drop_left' iI:l.drop (w.length-1)=w.getLast u::r)]at h2
 rw[show p+w.length-1=p+(w.length-1)by exact hH (List.length_pos_iff.mpr u) _];exact h2.cons.2.1
theorem zDa{w:Ln}(h:At t q p l)(F:w.isPrefixOf l)(D:w≠[])(I:isWordUni (w.getLast D)):Re.bound t q (p+w.length)=zIs (l.drop w.length):=by
 have u:0<w.length:=List.length_pos_iff.mpr D;obtain hle:=qHb F;have h2:=At.skip w.length h hle;unfold Re.bound;rw[zGo h F D,I,e9 (lM _ u),bne_iff_ne.mpr (nw u h.len hle)];cases e:l.drop w.length with
 |nil=>rw[e]at h2;rw[h2.nil,k9 (fP _)];rfl
 |cons d r =>rw[e]at h2;refine bg h2.cons λa b z=>?_;rw[e9 a,b];show(true&&(true&&true != (true&&isWordUni d)))=!isWordUni d;cases isWordUni d <;> rfl
theorem zDz(h:At t q p l):∀(ws:List (Ln)),(∀w∈ws,∃u:w≠[],isWordUni (w.getLast u))->(zS t q p ws).isSome=qOe l ws:=by
 intro N;induction N with
 |nil=>exactλz=>rfl
 |cons w ws I =>
  intro D;obtain⟨u,J⟩:=D w (.head _);show(if(vB t q p w&&Re.bound t q (p+w.length))=true then some (p+w.length)else zS t q p ws).isSome=(w.isPrefixOf l&&zIs (l.drop w.length)||qOe l ws)
  rw[zNe h];obtain ih:=I λL F=>D L (.tail _ F);by_cases e:w.isPrefixOf l=true
  .rw[e,zDa h e u J,pY];cases zIs (l.drop w.length)with
   |true=>rfl
   |false=>exact ih
  .rw[gF _ |>.mp e];exact ih
theorem qWj:∀w∈closeWs,∃u:w≠[],isWordUni (w.getLast u):=by
 intro w D;have:closeWs.all (λw=>w.getLast?.any isWordUni)=true:=pw;have:=List.all_eq_true.mp this w D;cases w with
 |nil=>exact zF1 this
 |cons d r=>exact⟨by simp,by rw[r5 (by simp)]at this;exact this⟩
theorem zGw(h:j8 (t.getD p 0)):∀(ws:List (Ln)),(∀w∈ws,(w.head?.any λd=>!Unicode.isSpace d))->zS t q p ws=none:=by
 intro J;induction J with
 |nil=>exactλz=>rfl
 |cons w ws I =>
  intro u;obtain h1:=u w (.head _);cases w with
  |nil=>exact zF1 h1
  |cons d r =>
   obtain hne:(t.getD p 0==d)=false:=beq_eq_false_iff_ne.mpr λe=>by simp only[e]at h;obtain h1:(!Unicode.isSpace d)=true:=h1;simp only[h]at h1;exact zF1 h1
   show(if((decide (p<q)&&t.getD p 0==d&&vB t q (p+1) r)&&_)=true then _ else _)=_;simp only[hne,Bool.and_false,nE,nE];exact I λF D=>u F (.tail _ D)
end
theorem qFa:RepAt closeC 5 9 4294967295 j8:=⟨by decide,by rfl,by rfl,by rfl,by rfl,qGj λch sn=>rfl⟩
theorem qOl:zOd closeC 88:=⟨by decide,by rfl,by rfl,by decide,by rfl⟩
theorem qOn:zJu closeC 88 16 closeWs:=by repeat' first|exact trivial|rfl|decide|constructor
theorem zCr:∀w∈closeWs,(w.head?.any λd=>!Unicode.isSpace d):=List.all_eq_true.mp pw
theorem qLa(F:fs.length<1000)(h1:∀e,zS t q pos closeWs=some e->∀pc pos om sn,Reach (Ms ⟨closeC,t,q,p⟩ pc pos e om fs #[] none (some true) sn) Q k)(h2:zS t q pos closeWs=none->∀pc pos hd om sn,Reach (Ms ⟨closeC,t,q,p⟩ pc pos hd om fs #[] none (some false) sn) Q k):Reach (Ms ⟨closeC,t,q,p⟩ 15 pos hd om fs #[] none none sn) Q (k+51):=by
 refine Reach.step (k:=k+50) rfl ?_;rw[jF (by show 15<closeC.size;decide),zQe (m:=Ms ⟨closeC,t,q,p⟩ 15 pos hd om fs #[] none none sn) (by rfl),qDd];have:=(qOv (c:=⟨closeC,t,q,0⟩) (start:=p) (pos:=pos) (om:=om) (fs:=fs) (wt:=fs.length) qOl closeWs 16 15 hd (sn.add 7) qOn (ny F)).bind (l:=k) (R:=Q) λm hm=>?_
 .exact Reach.mono this (by show 48+k<=k+50;simp +arith)
 rcases hm with⟨e,u,a,b,d,o,s',rfl,D⟩|⟨u,a,b,d,o,s',rfl,_⟩
 .have:=h1 e u a b o s';rw[<- D rfl]at this;exact this
 .exact h2 u a b d o s'
theorem qKz(h:At t q p l)(D:q<300):∃r,qS closeC t p q=some r/\r.isSome=wJ l:=by
 by_cases hs:q-p<4
 .refine⟨none,kY pi h.le hs,?_⟩;obtain hl:=h.len;refine(Bool.eq_false_iff.mpr λz=>?_).symm;obtain⟨w,J,z⟩:=List.any_eq_true.mp z;rw[i6]at z;exact nz hs hl (qKp (f:=j8) l) (qHb z.1) (j6 (List.all_eq_true.mp (by decide +kernel:closeWs.all (λw=>decide (4<=w.length))=true) w J))
 obtain⟨I,s2⟩:=h.spn (f:=j8);obtain hlen:=h.len;obtain hle:=qBz (f:=j8) l;refine⟨(zS t q (p+(l.takeWhile j8).length) closeWs).map λe=>(p,e),match_of (code:=closeC) (text:=t) (p:=p) (q:=q) (oe hs) λsn=>Reach.mono (k:=19000) (wM (c:=⟨closeC,t,q,p⟩) qFa h.le (t:=15) rfl (n:=(l.takeWhile j8).length) (by rw[kI (bj D)];exact I) (by show 0<10000;decide) λsn=>qLa (k:=18948) (by show 1<1000;decide) (λe u pc pos om sn=>?_) λu pc pos hd om sn=>?_) pi,by rw[Option.isSome_map];exact(zDz s2 closeWs qWj)⟩
 .rw[u];exact Reach.mono (R_yes (by rfl)) (by show 2<=18948;decide)
 .rw[u];refine Reach.mono (uN (K:=51) (k:=1) qFa rfl pi (λpos h1 h2 hd om fs sn Q k F hk=>qLa (bj F) (λe u=>by rw[zGw h2 closeWs zCr]at u;exact zN1 u) λy=>hk) (λy y y y y=>qIc) _ _ _ _ _ _ _ _ (hlen▸e6 hle _) (t4 _ _) λi hi=>?_) (by have:((l.takeWhile j8).length+1)*(51+1)<=301*52:=fH _ (fb D hlen hle);exact b7 (e6 this 1) pi)
  .have:=h.run (f:=j8) i hi;rw[show p+(l.takeWhile j8).length-(l.takeWhile j8).length+i=p+i by exact dg];exact this
noncomputable def triN(c:Nat):Bool->Ln->Nat
 |_,[]=>0
 |true,_::l=>triN c false l+1
 |false,d::l=>if d=c then(if l.take 2=[c,c]then 3 else triN c false l+1)else if d=92/\l=[]then 0 else triN c (d==92) l+1
noncomputable def sngN(c:Nat):Bool->Ln->Nat
 |_,[]=>0
 |true,_::l=>sngN c false l+1
 |false,d::l=>if d=c then 1 else if d=10\/(d=92/\l=[])then 0 else sngN c (d==92) l+1
def strN:Ln->Nat
 | []=>0
 |c::l=>if l.take 2=[c,c]then triN c false (l.drop 2)+3 else sngN c false l+1
section
variable{c d:Nat}{l:Ln}
theorem qEi:triN c false (d::l)=if d=c then(if l.take 2=[c,c]then 3 else triN c false l+1)else if d=92/\l=[]then 0 else triN c (d==92) l+1:=rfl
theorem qEt:sngN c false (d::l)=if d=c then 1 else if d=10\/(d=92/\l=[])then 0 else sngN c (d==92) l+1:=rfl
theorem qXa:triN c false (c::l)=if l.take 2=[c,c]then 3 else triN c false l+1:=by rw[qEi];exact ax rfl rfl
theorem zKe(h:c≠92):triN c false (92::d::l)=triN c false l+2:=by rw[qEi];refine bc (fR h) (bc (λq=>nomatch q.2) ?_);rfl
theorem zLh(h:c≠92):triN c false [92]=0:=by rw[qEi];exact bc (fR h) (ax (⟨rfl,rfl⟩) rfl)
theorem qPs(h1:d≠c)(h2:d≠92):triN c false (d::l)=triN c false l+1:=by rw[qEi,b6 h1,b6 (λq=>h2 q.1),beq_eq_false_iff_ne.mpr h2]
theorem zKg:sngN c false (c::l)=1:=by rw[qEt];exact ax rfl rfl
theorem zKh(h:c≠10):sngN c false (10::l)=0:=by rw[qEt];exact bc (fR h) (ax (.inl rfl) rfl)
theorem zKi(h:c≠92):sngN c false (92::d::l)=sngN c false l+2:=by rw[qEt];refine bc (fR h) (bc (λq=>q.elim (λz=>nomatch z) λz=>nomatch z.2) ?_);rfl
theorem zLo(h:c≠92):sngN c false [92]=0:=by rw[qEt];exact bc (fR h) (ax (.inr ⟨rfl,rfl⟩) rfl)
theorem qXw(h1:d≠c)(h2:d≠92)(h3:d≠10):sngN c false (d::l)=sngN c false l+1:=by rw[qEt,b6 h1,b6 (λq=>q.elim h3 λz=>h2 z.1),beq_eq_false_iff_ne.mpr h2]
end
def fT(q c:Nat):Bool:=!(c==q||c==92)
def fS(q c:Nat):Bool:=!(c==10||c==q||c==92)
theorem zKs(h:fT q c):c≠q/\c≠92:=by unfold fT at h;rw[fE,iG,gT,gT]at h;exact h
theorem zNl(h:fT q c=false):c=q\/c=92:=by unfold fT at h;rw[Bool.not_eq_false',eS,w6,w6]at h;exact h
theorem zBz(h:fS q c):c≠q/\c≠92/\c≠10:=by unfold fS at h;simp only[fE,iG,iG,gT,gT,gT]at h;exact⟨h.1.2,h.2,h.1.1⟩
theorem zNm(h:fS q c=false):c=q\/c=92\/c=10:=by
 unfold fS at h;simp only[Bool.not_eq_false',eS,eS,w6,w6,w6]at h;rcases h with(h|h)|h
 .exact .inr (.inr h)
 .exact .inl h
 .exact .inr (.inl h)
theorem qPr:∀l,triN q false l=(l.takeWhile (fT q)).length+triN q false (l.dropWhile (fT q)):=by
 intro D;induction D with
 |nil=>exact  rfl
 |cons d l u =>
  rw[cC,v1];by_cases h:fT q d=true
  .rw[d3 h,d3 h,qPs (zKs h).1 (zKs h).2,u,g5];exact gN (i8 _ 1 _)
  .rw[b6 h,b6 h];exact(fJ _).symm
theorem qPy:∀l,sngN q false l=(l.takeWhile (fS q)).length+sngN q false (l.dropWhile (fS q)):=by
 intro D;induction D with
 |nil=>exact  rfl
 |cons d l u =>
  rw[cC,v1];by_cases h:fS q d=true
  .rw[d3 h,d3 h,qXw (zBz h).1 (zBz h).2.1 (zBz h).2.2,u,g5];exact gN (i8 _ 1 _)
  .rw[b6 h,b6 h];exact(fJ _).symm
def zEi(q:Nat):Ln:=[16,q,16,q,16,q,24,12,0,4294967295,13,7,21,16,q,16,92,0,1,23,37,0,4294967295,7,6,16,92,3,15,15,13,16,q,5,7,0,16,q,16,q,1,15,2,0,24,12,0,4294967295,13,7,21,16,q,16,92,0,1,18,23,9,0,1,16,q,16,q,16,q,18,15]
def zEy(q w:Nat):Ln:=[16,q,24,17,0,4294967295,13,12,21,9,1024,w,268435456,0,0,0,0,0,0,1,23,24,0,4294967295,16,92,3,24,17,0,4294967295,13,12,21,9,1024,w,268435456,0,0,0,0,0,0,1,18,24,6,0,1,16,q,1,15]
structure PartAt(b:Nat)(T:Ln):Prop where
 at_:∀i,i<T.length->stringC.getD (b+i) 0=T.getD i 0
 le:b+T.length+1<=268
 jump:b+T.length-1+1+stringC.getD (b+T.length) 0=268
theorem qBp{T:Ln}(h:(T.zipIdx.all (λx=>stringC.getD (b+x.2) 0==x.1)&&decide (b+T.length+1<=268)&&(b+T.length-1+1+stringC.getD (b+T.length) 0==268))):PartAt b T:=by rw[i6,i6]at h;refine⟨λi hi=>?_,j6 h.1.2,eU h.2⟩;have:=List.all_eq_true.mp h.1.1 (T[i],i) (by rw[List.mem_zipIdx_iff_getElem?];exact u8 hi);rw[eU this,r8,u8 hi];rfl
theorem zOs:PartAt 12 (zEi 34):=qBp pw
theorem zLi:PartAt 140 (zEi 39):=qBp pw
theorem zOx:PartAt 84 (zEy 34 4):=qBp pw
theorem zLp:PartAt 212 (zEy 39 128):=qBp pw
theorem PartAt.lt{T:Ln}(B:PartAt b T)(hi:i<T.length):b+i<stringC.size:=mT (g9 (mN hi b) (m4 B.le)) pi
theorem qRq{code:Array Nat}(h:∀ch sn,accepts code i ch sn=if(ch==q)then .ok (false,(sn.add 21).add 16)else if(ch==92)then .ok (false,((sn.add 21).add 16).add 16)else .ok (true,(((sn.add 21).add 16).add 16).add 0))(ch:Nat)(sn:Seen):∃u,accepts code i ch sn=.ok (fT q ch,u):=by
 rw[h];unfold fT;cases h1:ch==q with
 |true=>exact⟨_,rfl⟩
 |false=>cases h2:ch==92 with
  |true=>exact⟨_,rfl⟩
  |false=>exact⟨_,rfl⟩
noncomputable def qYt(b c:Nat):Bool:=decide (c<256)&&(stringC.getD (b+(1+c/32)) 0).testBit (c%32)
theorem qBo(u:q<256)(h:(rD 256).all (λc=>qYt b c==!fS q c))(c:Nat):qYt b c=!fS q c:=by
 by_cases hc:c<256
 .exact eU (List.all_eq_true.mp h c (List.mem_range.mpr hc))
 .unfold qYt fS;simp only[k9 hc,nE,not_not,beq_eq_false_iff_ne.mpr (show c≠10 by exactλq=>hc (by rw[q];decide)),beq_eq_false_iff_ne.mpr (show c≠q by exactλq=>hc (by rw[q];exact u)),beq_eq_false_iff_ne.mpr (show c≠92 by exactλq=>hc (by rw[q];decide))];rfl
theorem qRr{code:Array Nat}(D:∀c,qYt b c=!fS q c)(h:∀ch sn,accepts code i ch sn=if qYt b ch then .ok (false,(sn.add 21).add 9)else .ok (true,((sn.add 21).add 9).add 0))(ch:Nat)(sn:Seen):∃u,accepts code i ch sn=.ok (fS q ch,u):=by
 rw[h,D];cases fS q ch with
 |true=>exact⟨_,rfl⟩
 |false=>exact⟨_,rfl⟩
structure TriAt(b q:Nat):Prop extends PartAt b (zEi q)where
 r1:RepAt stringC (b+6) 12 4294967295 (fT q)
 r2:RepAt stringC (b+44) 12 4294967295 (fT q)
 ne:q≠92
structure SngAt(b q w:Nat):Prop extends PartAt b (zEy q w)where
 r1:RepAt stringC (b+2) 17 4294967295 (fS q)
 r2:RepAt stringC (b+27) 17 4294967295 (fS q)
 r3:RepAt stringC (b+46) 6 1 (· == q)
 ne:q≠92
 ne':q≠10
theorem T12:TriAt 12 34:=⟨zOs,⟨by decide,by rfl,by rfl,by rfl,by rfl,qRq λch sn=>rfl⟩,⟨by decide,by rfl,by rfl,by rfl,by rfl,qRq λch sn=>rfl⟩,by decide⟩
theorem zSt:TriAt 140 39:=⟨zLi,⟨by decide,by rfl,by rfl,by rfl,by rfl,qRq λch sn=>rfl⟩,⟨by decide,by rfl,by rfl,by rfl,by rfl,qRq λch sn=>rfl⟩,by decide⟩
theorem S84:SngAt 84 34 4:=⟨zOx,⟨by decide,by rfl,by rfl,by rfl,by rfl,qRr (b:=93) (qBo pi pw) λch sn=>rfl⟩,⟨by decide,by rfl,by rfl,by rfl,by rfl,qRr (b:=118) (qBo pi pw) λch sn=>rfl⟩,⟨by decide,by rfl,by rfl,by rfl,by rfl,λch sn=>⟨sn,rfl⟩⟩,by decide,by decide⟩
theorem zSu:SngAt 212 39 128:=⟨zLp,⟨by decide,by rfl,by rfl,by rfl,by rfl,qRr (b:=221) (qBo pi pw) λch sn=>rfl⟩,⟨by decide,by rfl,by rfl,by rfl,by rfl,qRr (b:=246) (qBo pi pw) λch sn=>rfl⟩,⟨by decide,by rfl,by rfl,by rfl,by rfl,λch sn=>⟨sn,rfl⟩⟩,by decide,by decide⟩
section
variable{t:Array Nat}{p lim b q w hd:Nat}{om:Bool}{sn:Seen}{l:Ln}
theorem TriAt.wd(B:TriAt b q)(i:Nat)(hi:i<70):stringC.getD (b+i) 0=(zEi q).getD i 0:=B.at_ i hi
theorem TriAt.gd(B:TriAt b q)(i:Nat)(hi:i<70):b+i<stringC.size:=B.lt hi
theorem SngAt.wd(B:SngAt b q w)(i:Nat)(hi:i<54):stringC.getD (b+i) 0=(zEy q w).getD i 0:=B.at_ i hi
theorem SngAt.gd(B:SngAt b q w)(i:Nat)(hi:i<54):b+i<stringC.size:=B.lt hi
abbrev Cs(t:Array Nat)(lim p:Nat):Cv:=⟨stringC,t,lim,p⟩
theorem xL(h:fs.length+n<6000):uX fs:=i9 (n5 _ n) (mT h pi)
theorem qGt{T:Ln}(B:PartAt b T)(hi:i+1=T.length)(u:T.getD i 0=15)(ok:fs.all okY):Reach (Ms (Cs t lim p) (b+i) pos hd om fs D inn none sn) (EndS p (some pos)) (fs.length+3):=by
 refine qPh (k:=fs.length+2) (B.lt (v6 hi)) ((B.at_ i (v6 hi)).trans u) (t:=268) ?_ λsn=>qAn (c:=Cs t lim p) (k:=fs.length+1) (by show 268<stringC.size;decide) (by rfl) λsn=>R_yes ok
 .have:=B.jump;rw[<- hi]at this;rw[<- this];rfl
theorem qXc(B:TriAt b q)(h:At t lim pos l)(I:fs.length+10<6000)(ok:fs.all okY):Reach (Ms (Cs t lim p) (b+58) pos hd om fs #[lp] none none sn) (EndS p (some (pos+if l.take 3=[q,q,q]then 3 else 0))) (fs.length+20):=by
 refine qIb (k:=fs.length+19) (B.gd 58 pi) (B.wd 58 pi) (t:=b+68) (by show b+58+1+stringC.getD (b+59) 0=_;simp only[B.wd 59 pi];rfl) (xL (n:=10) I) λsn=>?_;obtain hm:stringC.getD (b+58+3) 0=1:=B.wd 61 pi;refine yA (k:=fs.length+18) (B.gd 68 pi) (B.wd 68 pi) (l:={ pc:=b+58,outer:=none }) rfl (B.wd 60 pi) (mI _) (xL (n:=9) (by simp only[g5];exact I)) (λw sn=>?_) λD=>d9 ⟨.inl (by show(-1:Int)+1<((stringC.getD (b+58+3) 0:Nat):Int);simp only[hm];decide),λz=>nomatch z⟩ D;have u:∀{T N S:Nat}{O:Bool}{V:Seen},¬l.take 3=[q,q,q]->Reach (Ms (Cs t lim p) T N S O (Mf .maxMore (b+69) pos om (-1+1) true 1 none::Mf .closeLoop (b+58) pos om 0 false 1 none::fs) #[lp,{ pc:=b+58,outer:=none,count:=-1+1,began:=some pos }] (some 1) (some false) V) (EndS p (some (pos+if l.take 3=[q,q,q]then 3 else 0))) (fs.length+15):=λe=>by simp only[b6 e];exact Reach.mono (zJr (k:=fs.length+2+3) (lp':=#[lp,{ pc:=b+58,outer:=none,count:=-1+1-1,began:=none }]) rfl rfl (xL (n:=8) (by simp only[g5];exact m9 I)) (qGt B.toPartAt (i:=69) (by rfl) (by rfl) (by simp only[dS,dS,ok];rfl))) (by simp)
 show Reach (Ms (Cs t lim p) (b+58+4) pos pos om (Mf .maxMore (b+69) pos om (-1+1) true 1 none::Mf .closeLoop (b+58) pos om 0 false 1 none::fs) #[lp,{ pc:=b+58,outer:=none,count:=-1+1,began:=some pos }] (some 1) none sn) _ _;refine xD (k:=fs.length+17) (d:=q) (B.gd 62 pi) (B.wd 62 pi) (B.wd 63 pi) (λa1 a2 sn=>?_) λD sn=>Reach.mono (u λz=>?_) (by simp);rotate_left
 .cases l with
  |nil=>cases z
  |cons d l =>
   refine bg h.cons λJ F w=>?_;injection z with z1 _
   exact D ⟨J,F.trans z1⟩
 cases l with
 |nil=>exact d9 h.nil (n3 a1)
 |cons U l =>
 refine bg h.cons λw F h2=>?_;have L:U=q:=F.symm.trans a2;refine xD (k:=fs.length+16) (d:=q) (B.gd 64 pi) (B.wd 64 pi) (B.wd 65 pi) (λa1 a2 sn=>?_) λD sn=>Reach.mono (u λz=>?_) (cc);rotate_left
 .clear L u hm h I;cases l with
  |nil=>cases z
  |cons d l =>
   refine bg h2.cons λJ F w=>?_;injection z with _ z
   injection z with z1 _
   exact D ⟨J,F.trans z1⟩
 clear h;cases l with
 |nil=>exact d9 h2.nil (n3 a1)
 |cons X l =>
 refine bg h2.cons λw Z h3=>?_;obtain c2:X=q:=Z.symm.trans a2;refine xD (k:=fs.length+15) (d:=q) (B.gd 66 pi) (B.wd 66 pi) (B.wd 67 pi) (λa1 a2 sn=>?_) λD sn=>Reach.mono (u λz=>?_) (i5 _);rotate_left
 .clear c2 L u hm;cases l with
  |nil=>cases z
  |cons d l =>
   refine bg h3.cons λJ F w=>?_;injection z with _ z
   injection z with _ z
   injection z with z1 _
   exact D ⟨J,F.trans z1⟩
 clear u;cases l with
 |nil=>exact d9 h3.nil (n3 a1)
 |cons Y l =>
 have c3:Y=q:=h3.cons.2.1.symm.trans a2;simp only[d3 (show(U::X::Y::l).take 3=[q,q,q]by rw[L,c2,c3];rfl)];refine yA (k:=fs.length+14) (B.gd 68 pi) (B.wd 68 pi) (l:={ pc:=b+58,outer:=none,count:=-1+1,began:=some pos }) rfl (B.wd 60 pi) (by show(-1:Int)<=-1+1;decide) (xL (n:=8) (I)) (λhy=>?_) λw sn=>Reach.mono (qGt B.toPartAt (i:=69) (by rfl) (by rfl) (by simp only[dS,dS,dS,ok];rfl)) (by simp only[g5,g5,g5];exact og)
 .rcases hy.1 with z|z
  .simp only[show stringC.getD (b+58+3) 0=1 from hm]at z;exact d9 z (show¬((-1:Int)+1+1<((1:Nat):Int))by decide)
  .simp only[show stringC.getD (b+58+3) 0=1 from hm]at z;exact d9 z pi
set_option tactic.hygienic true in
theorem qXb(B:TriAt b q):∀(n:Nat)(l:Ln)(pos hd:Nat)(om:Bool)(fs:List v9)(ct:Int)(L:Option Nat)(sn:Seen),l.length=n->At t lim pos l->(∀d r,l=d::r->fT q d=false)->-1<=ct->(∀x,L=some x->x<pos)->lim<1000 ->
  fs.length+5*n+50<6000->fs.all okY->Reach (Ms (Cs t lim p) (b+57) pos hd om fs #[⟨b+19,ct,L,none⟩] (some 0) none sn) (EndS p (some (pos+triN q false l))) (fs.length+30*n+40):=by
 intro n;induction n using Nat.strongRecOn with
 |ind n ih =>
 intro l pos hd om fs ct L sn hn h hl h3 h4 a0 V ok;have next:∀(l1:Ln)(J a5:Nat)(sn:Seen)(f1 f2:v9),l1.length<n->At t lim J l1->pos<J->okY f1=true->okY f2=true ->
   Reach (Ms (Cs t lim p) (b+44) J a5 om (f1::f2::fs) #[⟨b+19,ct+1,some pos,none⟩] (some 0) none sn) (EndS p (some (J+triN q false l1))) (fs.length+30*n+20):=by
  intro l1 J a5 sn f1 f2 a3 h1 hp o1 o2;refine bo (h1.spn (f:=fT q)) λs1 s2=>?_;obtain d1:=qKp (f:=fT q) l1;refine wM (c:=Cs t lim p) (k:=fs.length+30*n+19) B.r2 h1.le (t:=b+57) rfl (n:=(l1.takeWhile (fT q)).length) (by rw[kI a0];exact s1) (xL (n:=5*n+40) (by rw[g5,g5];exact oh V)) λsn=>?_;rw[qPr l1,<- i7];exact Reach.mono (ih _ (i9 d1 a3) (l1.dropWhile (fT q)) _ _ om _ _ _ sn rfl s2 (λd r e=>vW e) (iK h3 (Int.le_add_one (mI _))) (λx hx=>by subst hx;exact oi hp) a0 (by rw[g5,g5,g5];exact oj V a3 d1) (by rw[dS,dS,dS,o1,o2,ok];rfl)) (by rw[g5,g5,g5];exact ol a3 d1)
 have U:∀{S F O:Nat}{N:Bool}{T:Seen},triN q false l=(if l.take 3=[q,q,q]then 3 else 0)->Reach (Ms (Cs t lim p) S F O N (Mf .maxMore (b+58) pos om (ct+1) true 0 L::fs) #[⟨b+19,ct+1,some pos,none⟩] (some 0) (some false) T) (EndS p (some (pos+triN q false l))) (fs.length+30*n+26):=λe=>by rw[e];exact Reach.mono (zJr (k:=fs.length+1+20) (lp':=#[⟨b+19,ct+1-1,L,none⟩]) rfl rfl (xL (n:=20) (by exact cp V)) (qXc B h (by rw[g5];exact oq V) (by rw[dS,ok];rfl))) (by exact jq)
 refine yA (k:=fs.length+30*n+39) (B.gd 57 pi) (B.wd 57 pi) (l:=⟨b+19,ct,L,none⟩) rfl (B.wd 21 pi) h3 (xL (n:=50) (by exact cp V)) (λw sn=>?_) λu=>d9 ⟨.inr (B.wd 22 pi),λz=>fP _ (h4 pos z)⟩ u;show Reach (Ms (Cs t lim p) (b+23) pos pos om (Mf .maxMore (b+58) pos om (ct+1) true 0 L::fs) #[⟨b+19,ct+1,some pos,none⟩] (some 0) none sn) _ _;have Z:∀{f1:v9},uX (f1::fs):=xL (n:=20) (by rw[g5];exact ff V);refine qLo (k:=fs.length+30*n+38) (B.gd 23 pi) (B.wd 23 pi) (by rw[show(Cs t lim p).code.getD (b+23+1) 0=6 from B.wd 24 pi];decide) Z λsn=>?_;have D:∀{S F O:Nat}{N:Bool}{T:Seen},(pos<lim->t.getD pos 0=q->∀hd sn,Reach (Ms (Cs t lim p) (b+33) (pos+1) hd om (Mf .nextBranch (b+30) pos om 0 true 0 none::Mf .maxMore (b+58) pos om (ct+1) true 0 L::fs) #[⟨b+19,ct+1,some pos,none⟩] (some 0) none sn) (EndS p (some (pos+triN q false l))) (fs.length+30*n+33)) ->
   (¬(pos<lim/\t.getD pos 0=q)->triN q false l=(if l.take 3=[q,q,q]then 3 else 0)) ->
   Reach (Ms (Cs t lim p) S F O N (Mf .nextBranch (b+24) pos om 0 true 0 none::Mf .maxMore (b+58) pos om (ct+1) true 0 L::fs) #[⟨b+19,ct+1,some pos,none⟩] (some 0) (some false) T) (EndS p (some (pos+triN q false l))) (fs.length+30*n+35):=by
  intro S F O N T hy hn;exact zDs (c:=Cs t lim p) (k:=fs.length+30*n+34) (t:=b+30) (by show b+24+stringC.getD (b+24) 0=_;rw[B.wd 24 pi];rfl) Z (λw=>xD (c:=Cs t lim p) (k:=fs.length+30*n+33) (d:=q) (B.gd 31 pi) (B.wd 31 pi) (B.wd 32 pi) (λa1 a2 sn=>hy a1 a2 _ sn) λu sn=>zDs (c:=Cs t lim p) (k:=fs.length+30*n+32) (t:=b+43) (by show b+30+stringC.getD (b+30) 0=_;rw[B.wd 30 pi];rfl) Z (λe=>d9 (show stringC.getD (b+43) 0=0 from B.wd 43 pi) e) λw=>Reach.mono (U (hn u)) (by simp)) λe=>d9 (show stringC.getD (b+30) 0=0 from e) (by rw[show stringC.getD (b+30) 0=13 from B.wd 30 pi];decide)
 refine xD (c:=Cs t lim p) (k:=fs.length+30*n+37) (d:=92) (B.gd 25 pi) (B.wd 25 pi) (B.wd 26 pi) (λa1 a2 sn=>?_) λu sn=>?_
 .cases l with
  |nil=>exact d9 h.nil (n3 a1)
  |cons d l =>
  refine bg h.cons λw x2 h2=>?_;clear Z U hd;obtain rfl:d=92:=x2.symm.trans a2;refine zLa (c:=Cs t lim p) (k:=fs.length+30*n+36) (B.gd 27 pi) (B.wd 27 pi) (λa1 sn=>?_) λu sn=>?_
  .cases l with
   |nil=>exact d9 h2.nil (n3 a1)
   |cons d l =>
   refine qPh (c:=Cs t lim p) (k:=fs.length+30*n+35) (t:=b+44) (B.gd 28 pi) (B.wd 28 pi) (by show b+28+1+stringC.getD (b+29) 0=_;rw[B.wd 29 pi];rfl) λsn=>?_;have:=next l (pos+1+1) pos sn (Mf .nextBranch (b+24) pos om 0 true 0 none) (Mf .maxMore (b+58) pos om (ct+1) true 0 L) (by rw[<- hn,g5,g5];lia) h2.cons.2.2 (by lia) rfl rfl
   rw[zKe B.ne,show pos+(triN q false l+2)=pos+1+1+triN q false l by exact(i8 _ 2 _).symm];exact Reach.mono this (by exact cc)
  .have e:l=[]:=by
    cases l with
    |nil=>rfl
    |cons d r=>exact d9 h2.cons.1 u
   subst e;refine Reach.mono (D (λw z=>d9 (z.symm.trans a2) B.ne) λw=>?_) (by exact cc);rw[zLh B.ne,b6 (λz=>nomatch z)]
 .refine Reach.mono (D (λa1 a2 hd sn=>?_) λa9=>?_) (by simp)
  .cases l with
   |nil=>exact d9 h.nil (n3 a1)
   |cons d l =>
   refine bg h.cons λw x2 h2=>?_;obtain rfl:d=q:=x2.symm.trans a2;refine zQs (c:=Cs t lim p) (k:=fs.length+30*n+32) (B.gd 33 pi) (B.wd 33 pi) (B.wd 35 pi) (xL (n:=20) (by rw[g5,g5];exact ou V)) λsn=>?_;have cont:∀{S F O:Nat}{N:Bool}{T:Seen},¬l.take 2=[d,d]->Reach (Ms (Cs t lim p) S F O N (Mf .lookNot (b+33) (pos+1) om 0 true 0 none::Mf .nextBranch (b+30) pos om 0 true 0 none::Mf .maxMore (b+58) pos om (ct+1) true 0 L::fs) #[⟨b+19,ct+1,some pos,none⟩] (some 0) (some false) T) (EndS p (some (pos+triN d false (d::l)))) (fs.length+30*n+25):=λe=>by refine zQu (c:=Cs t lim p) (k:=fs.length+30*n+24) (t:=b+41) (by show b+33+1+stringC.getD (b+34) 0=_;rw[B.wd 34 pi];rfl) (qPh (c:=Cs t lim p) (k:=fs.length+30*n+23) (t:=b+44) (B.gd 41 pi) (B.wd 41 pi) (by show b+41+1+stringC.getD (b+42) 0=_;rw[B.wd 42 pi];rfl) λsn=>?_);rw[qXa,b6 e,show pos+(triN d false l+1)=pos+1+triN d false l by exact gN (i8 _ 1 _)];exact Reach.mono (next l (pos+1) _ sn _ _ (by rw[<- hn,g5];exact v7 Nat.le.refl) h2 (by exact v7 Nat.le.refl) rfl rfl) (by exact cc)
   refine xD (c:=Cs t lim p) (k:=fs.length+30*n+31) (d:=d) (B.gd 36 pi) (B.wd 36 pi) (B.wd 37 pi) (λb1 b2 sn=>?_) λu sn=>Reach.mono (cont λz=>?_) (by exact cc)
   .clear D next hd
    cases l with
    |nil=>exact d9 h2.nil (n3 b1)
    |cons d2 l =>
    refine bg h2.cons λw x3 h3=>?_;obtain e2:d2=d:=x3.symm.trans b2;refine xD (c:=Cs t lim p) (k:=fs.length+30*n+30) (d:=d) (B.gd 38 pi) (B.wd 38 pi) (B.wd 39 pi) (λb1 b2 sn=>?_) λu sn=>Reach.mono (cont λz=>?_) (by exact cc)
    .cases l with
     |nil=>exact d9 h3.nil (n3 b1)
     |cons I l =>
     have e3:I=d:=h3.cons.2.1.symm.trans b2;refine qAn (c:=Cs t lim p) (k:=fs.length+30*n+29) (B.gd 40 pi) (B.wd 40 pi) λsn=>Reach.mono (k:=fs.length+30*n+26+1+1) (zQt (zDs (c:=Cs t lim p) (t:=b+43) (by show b+30+stringC.getD (b+30) 0=_;rw[B.wd 30 pi];rfl) Z (λe=>d9 (show stringC.getD (b+43) 0=0 from B.wd 43 pi) e) λw=>U ?_)) (by exact ow);subst e2 e3;rw[qXa,d3 (show(I::I::l).take 2=[I,I]from rfl),d3 (show(I::I::I::l).take 3=[I,I,I]from rfl)]
    .cases l with
     |nil=>exact nomatch z
     |cons I r =>
      refine bg h3.cons λY X w=>?_;injection z with _ z
      injection z with z1 _
      exact u ⟨Y,X.trans z1⟩
   .clear cont D Z U next hd
    cases l with
    |nil=>exact nomatch z
    |cons d2 r =>
     refine bg h2.cons λY X w=>?_;injection z with z1 _
     exact u ⟨Y,X.trans z1⟩
  .cases l with
   |nil=>rfl
   |cons d l =>
    refine bg h.cons λY X w=>?_;rcases zNl (hl d l rfl)with e|e
    .exact d9 ⟨Y,X.trans e⟩ a9
    .exact d9 ⟨Y,X.trans e⟩ u
theorem qXx(B:SngAt b q w):∀(n:Nat)(l:Ln)(pos hd:Nat)(om:Bool)(fs:List v9)(ct:Int)(D:Option Nat)(sn:Seen),l.length=n->At t lim pos l->(∀d r,l=d::r->fS q d=false)->-1<=ct->(∀x,D=some x->x<pos)->lim<1000 ->
  fs.length+5*n+50<6000->fs.all okY->Reach (Ms (Cs t lim p) (b+45) pos hd om fs #[⟨b+20,ct,D,none⟩] (some 0) none sn) (EndS p (some (pos+sngN q false l))) (fs.length+30*n+40):=by
 intro n;induction n using Nat.strongRecOn with
 |ind n ih =>
 intro l pos hd om fs ct D sn hn h Z h3 h4 I J ok;have F:∀{T L S:Nat}{O:Bool}{U:Seen},sngN q false l=(if l.head?=some q then 1 else 0)->Reach (Ms (Cs t lim p) T L S O (Mf .maxMore (b+46) pos om (ct+1) true 0 D::fs) #[⟨b+20,ct+1,some pos,none⟩] (some 0) (some false) U) (EndS p (some (pos+sngN q false l))) (fs.length+30*n+26):=λ{T L S O U} e=>by
  simp only[e];refine Reach.mono (k:=fs.length+6+1) (zJr (lp':=#[⟨b+20,ct+1-1,D,none⟩]) rfl rfl (xL (n:=20) (by exact cp J)) (wM (c:=Cs t lim p) (k:=fs.length+5) B.r3 h.le (t:=b+53) rfl (n:=if l.head?=some q then 1 else 0) (by
   cases l with
   |nil=>simp only[h.nil,gU];rfl
   |cons d l =>
    refine bg h.cons λa1 a2 v=>?_
    simp only[bQ (by exact nP a1)]
    show(if(t.getD pos 0==q)then 0+1 else 0)=_
    simp only[a2]
    by_cases z:d=q
    .rw[d3 (by rw[z];exact gE _),d3 (by rw[z];rfl)]
    .rw[b6 (by rw[w6];exact z)]
     exact(b6 (λy=>z (b5 y))).symm) (xL (n:=20) (by simp only[g5];exact ff J)) λsn=>?_)) (by simp +arith)
  exact Reach.mono (qGt B.toPartAt (i:=53) (by rfl) (by rfl) (by simp only[dS,dS,ok];rfl)) (by simp only[g5,g5];simp)
 refine yA (k:=fs.length+30*n+39) (B.gd 45 pi) (B.wd 45 pi) (l:=⟨b+20,ct,D,none⟩) rfl (B.wd 22 pi) h3 (xL (n:=50) (by exact cp J)) (λv sn=>?_) λu=>d9 ⟨.inr (B.wd 23 pi),λz=>fP _ (h4 pos z)⟩ u;show Reach (Ms (Cs t lim p) (b+24) pos pos om (Mf .maxMore (b+46) pos om (ct+1) true 0 D::fs) #[⟨b+20,ct+1,some pos,none⟩] (some 0) none sn) _ _;refine xD (c:=Cs t lim p) (k:=fs.length+30*n+38) (d:=92) (B.gd 24 pi) (B.wd 24 pi) (B.wd 25 pi) (λa1 a2 sn=>?_) λu sn=>Reach.mono (F ?_) (by simp)
 .cases l with
  |nil=>exact d9 h.nil (n3 a1)
  |cons d l =>
  refine bg h.cons λv Y h2=>?_;obtain rfl:d=92:=Y.symm.trans a2;refine zLa (c:=Cs t lim p) (k:=fs.length+30*n+37) (B.gd 26 pi) (B.wd 26 pi) (λa1 sn=>?_) λu sn=>Reach.mono (F ?_) (by exact cc)
  .cases l with
   |nil=>exact d9 h2.nil (n3 a1)
   |cons d l =>
   have h1:=h2.cons.2.2;refine bo (h1.spn (f:=fS q)) λs1 s2=>?_;obtain d1:=qKp (f:=fS q) l;have N:l.length<n:=by simp only[<- hn,g5,g5];lia
   refine wM (c:=Cs t lim p) (k:=fs.length+30*n+36) B.r2 h1.le (t:=b+45) rfl (n:=(l.takeWhile (fS q)).length) (by simp only[kI I];exact s1) (xL (n:=5*n+40) (by simp only[g5];exact ox J)) λsn=>?_;simp only[zKi B.ne,qPy l,show pos+((l.takeWhile (fS q)).length+sngN q false (l.dropWhile (fS q))+2)=pos+1+1+(l.takeWhile (fS q)).length+sngN q false (l.dropWhile (fS q))by exact oy];exact Reach.mono (ih _ (i9 d1 N) (l.dropWhile (fS q)) _ _ om _ _ _ sn rfl s2 (λd r e=>vW e) (iK h3 (Int.le_add_one (mI _))) (λx hx=>by subst hx;exact oz) I (by simp only[g5,g5];exact pa J d1 N) (by simp only[dS,dS,ok];rfl)) (by simp only[g5,g5];exact pb d1 N)
  .have e:l=[]:=by
    cases l with
    |nil=>rfl
    |cons d r=>exact d9 h2.cons.1 u
   subst e;simp only[zLo B.ne];exact(b6 (λz=>B.ne (b5 z).symm)).symm
 .clear F hd;cases l with
  |nil=>rfl
  |cons d l =>
   refine bg h.cons λX V v=>?_;rcases zNm (Z d l rfl)with e|e|e
   .simp only[e,zKg];exact(d3 rfl).symm
   .exact d9 ⟨X,V.trans e⟩ u
   .simp only[e,zKh B.ne'];exact(b6 (λz=>B.ne' (b5 z).symm)).symm
theorem qSc(B:TriAt b q)(h:At t lim pos l)(u:lim<300)(h1:f1.length<10)(ok:f1.all okY):Reach (Ms (Cs t lim p) (b+6) pos hd om f1 #[] none none sn) (EndS p (some (pos+triN q false l))) 12000:=by refine bo (h.spn (f:=fT q)) λD s2=>?_;obtain d1:=qKp (f:=fT q) l;obtain hlen:=h.len;refine wM (c:=Cs t lim p) (k:=11999) B.r1 h.le (t:=b+19) rfl (n:=(l.takeWhile (fT q)).length) (by simp only[kI (bj u)];exact D) (xL (n:=40) (cq h1)) λsn=>qIb (c:=Cs t lim p) (k:=11998) (B.gd 19 pi) (B.wd 19 pi) (t:=b+57) (by simp only[B.wd 20 pi];rfl) (xL (n:=40) (by simp only[g5];exact fg h1)) λsn=>?_;simp only[qPr l,<- i7];exact Reach.mono (qXb B _ (l.dropWhile (fT q)) _ _ om _ (-1) none sn rfl s2 (λd r e=>vW e) (mI _) (λx F=>nomatch F) (bj u) (by simp only[g5,g5];exact fh u h1 d1 hlen) (by simp only[dS,dS,ok];rfl)) (by simp only[g5,g5];exact fi u h1 d1 hlen)
theorem qSt(B:SngAt b q w)(h:At t lim pos l)(u:lim<300)(h1:f1.length<10)(ok:f1.all okY):Reach (Ms (Cs t lim p) (b+2) pos hd om f1 #[] none none sn) (EndS p (some (pos+sngN q false l))) 12000:=by refine bo (h.spn (f:=fS q)) λD s2=>?_;obtain d1:=qKp (f:=fS q) l;obtain hlen:=h.len;refine wM (c:=Cs t lim p) (k:=11999) B.r1 h.le (t:=b+20) rfl (n:=(l.takeWhile (fS q)).length) (by simp only[kI (bj u)];exact D) (xL (n:=40) (cq h1)) λsn=>qIb (c:=Cs t lim p) (k:=11998) (B.gd 20 pi) (B.wd 20 pi) (t:=b+45) (by simp only[B.wd 21 pi];rfl) (xL (n:=40) (by simp only[g5];exact fg h1)) λsn=>?_;simp only[qPy l,<- i7];exact Reach.mono (qXx B _ (l.dropWhile (fS q)) _ _ om _ (-1) none sn rfl s2 (λd r e=>vW e) (mI _) (λx F=>nomatch F) (bj u) (by simp only[g5,g5];exact fh u h1 d1 hlen) (by simp only[dS,dS,ok];rfl)) (by simp only[g5,g5];exact fi u h1 d1 hlen)
theorem qPx(B:TriAt b q)(B2:SngAt D q w)(h:At t lim p (q::l))(F:lim<300)(h1:f1.length<8)(ok:f1.all okY)(ha:stringC.getD a1 0+a1=a2)(hb:a2+1=D)(hz:stringC.getD a2 0≠0):Reach (Ms (Cs t lim p) b p hd om (Mf .nextBranch a1 p om 0 false 0 none::f1) #[] none none sn) (EndS p (some (p+strN (q::l)))) 12010:=by
 refine bg h.cons λX S h2=>?_;have two:∀{V L U:Nat}{T:Bool}{Y:Seen},¬l.take 2=[q,q]->Reach (Ms (Cs t lim p) V L U T (Mf .nextBranch a1 p om 0 false 0 none::f1) #[] none (some false) Y) (EndS p (some (p+strN (q::l)))) 12003:=λe=>by refine zDs (c:=Cs t lim p) (k:=12002) (t:=a2) (by rw[m7];exact ha) (xL (n:=40) (by exact cq h1)) (λy=>?_) λe=>d9 e hz;rw[hb];have:=B2.gd 0 pi;refine xD (c:=Cs t lim p) (k:=12001) (d:=q) (B2.gd 0 pi) (B2.wd 0 pi) (B2.wd 1 pi) (λy y sn=>?_) λu=>d9 ⟨X,S⟩ u;rw[show strN (q::l)=sngN q false l+1 from b6 e,show p+(sngN q false l+1)=p+1+sngN q false l by exact gN (i8 _ 1 _)];exact Reach.mono (qSt B2 h2 F (by rw[g5];exact cq h1) (by rw[dS,ok];rfl)) pi
 refine xD (c:=Cs t lim p) (k:=12009) (d:=q) (B.gd 0 pi) (B.wd 0 pi) (B.wd 1 pi) (λy y sn=>xD (c:=Cs t lim p) (k:=12008) (d:=q) (B.gd 2 pi) (B.wd 2 pi) (B.wd 3 pi) (λN D sn=>?_) λu sn=>Reach.mono (two λz=>?_) pi) λu=>d9 ⟨X,S⟩ u
 .cases l with
  |nil=>exact d9 h2.nil (n3 N)
  |cons O l =>
  refine bg h2.cons λy x3 h3=>?_;obtain e2:O=q:=x3.symm.trans D;refine xD (c:=Cs t lim p) (k:=12007) (d:=q) (B.gd 4 pi) (B.wd 4 pi) (B.wd 5 pi) (λN D sn=>?_) λu sn=>Reach.mono (two λz=>?_) pi
  .cases l with
   |nil=>exact d9 h3.nil (n3 N)
   |cons Z l =>
   rw[show strN (q::O::Z::l)=triN q false l+3 from d3 (by rw[e2,(h3.cons.2.1.symm.trans D)];rfl),show p+(triN q false l+3)=p+1+1+1+triN q false l by exact(i8 _ 3 _).symm];exact Reach.mono (qSc B h3.cons.2.2 F (by rw[g5];exact cq h1) (by rw[dS,ok];rfl)) pi
  .cases l with
   |nil=>exact nomatch z
   |cons Z r =>
    refine bg h3.cons λJ I y=>?_;injection z with _ z
    injection z with z1 _
    exact u ⟨J,I.trans z1⟩
 .cases l with
  |nil=>exact nomatch z
  |cons O r =>
   refine bg h2.cons λJ I y=>?_;injection z with z1 _
   exact u ⟨J,I.trans z1⟩
theorem qXp(h:At t lim p (c::l))(hc:c=34\/c=39)(u:lim<300):qS stringC t p lim=some (some (p,p+strN (c::l))):=by
 refine bg h.cons λL I h2=>match_of (code:=stringC) (text:=t) (p:=p) (q:=lim) (r:=some (p+strN (c::l))) (L) λsn=>Reach.mono (k:=13000) (qLo (c:=Cs t lim p) (pc:=10) (k:=12999) (by show 10<stringC.size;decide) (by rfl) (by show stringC.getD 11 0≠0;decide) (by show 0<10000;decide) λsn=>?_) pi;rcases hc with rfl|rfl
 .exact Reach.mono (qPx (b:=12) T12 S84 h u pi rfl (a1:=11) (a2:=83) (by rfl) rfl pi) pi
 .have first:∀{pc t':Nat},stringC.getD pc 0=16->stringC.getD (pc+1) 0=34->pc<stringC.size->∀{alt k hd:Nat}{sn:Seen},alt+stringC.getD alt 0=t'->stringC.getD t' 0≠0->(∀hd sn,Reach (Ms (Cs t lim p) (t'+1) p hd true [Mf .nextBranch t' p true 0 false 0 none] #[] none none sn) (EndS p (some (p+strN (39::l)))) k) ->
    Reach (Ms (Cs t lim p) pc p hd true [Mf .nextBranch alt p true 0 false 0 none] #[] none none sn) (EndS p (some (p+strN (39::l)))) (k+2):=by
   intro pc t' F N S alt k hd sn O J D;exact xD (c:=Cs t lim p) (k:=k+1) (d:=34) S F N (λw z=>d9 (I.symm.trans z) pi) λw sn=>zDs (c:=Cs t lim p) (k:=k) (t:=t') O (by show 0<10000;decide) (λw=>D _ _) λe=>d9 e J
  exact Reach.mono (k:=12010+2+2) (first (pc:=12) (t':=83) (by rfl) (by rfl) pi (by rfl) pi λhd sn=>first (pc:=84) (t':=139) (by rfl) (by rfl) pi (by rfl) pi λhd sn=>qPx (b:=140) zSt zSu h u pi rfl (a1:=139) (a2:=211) (by rfl) rfl pi) pi
end
def NlL(l:Ln):Prop:=∀c,l.getLast?=some c->c=10
theorem NlL.suffix{r:Ln}(h:NlL l)(hs:r <:+ l):NlL r:=λc hc=>by
 obtain⟨a,rfl⟩:=hs
 exact h c (by rw[mJ,hc];rfl)
theorem NlL.mem(h:NlL l)(u:l≠[]):10∈l:=by rw[<- h _ (r5 u)];exact oQ u
theorem zKt{l:Ln}(h:10∈l):∃r,l.dropWhile (· != 10)=10::r:=by
 induction l with
 |nil=>cases h
 |cons d l u =>
  rw[v1];by_cases e:d=10
  .subst e;exact⟨l,zX1⟩
  .rw[d3 (by simpa using e)];exact u ((List.mem_cons.mp h).resolve_left (fR e))
noncomputable def zKr:Ln->Bool
 | []=>false
 |d::_=>!Unicode.isSpace d
def zLx:Ln->Bool
 | []=>false
 |c::r=>if c=10 then true else if c=35 then zKr r else false
def junkE(l:Ln):Bool:=zLx (l.dropWhile blk)
abbrev Cj(t:Array Nat)(q p:Nat):Cv:=⟨junkC,t,q,p⟩
theorem qCn:RepAt junkC 5 11 4294967295 blk:=⟨by decide,by rfl,by rfl,by rfl,by rfl,qRt λch sn=>rfl⟩
theorem zGj:RepAt junkC 28 5 4294967295 (· != 10):=⟨by decide,by rfl,by rfl,by rfl,by rfl,λch sn=>⟨sn,rfl⟩⟩
theorem qRs(ch:Nat)(sn:Seen):∃u,accepts junkC 23 ch sn=.ok (!Unicode.isSpace ch,u):=by
 obtain e:accepts junkC 23 ch sn=if(j8 ch != (13%2==1))then .ok (true,(sn.add 8).add 68)else .ok (false,((sn.add 8).add 68).add 0):=rfl;rw[e];cases j8 ch with
 |true=>exact⟨_,rfl⟩
 |false=>exact⟨_,rfl⟩
theorem qJv(O:fs.length<100)(S:pos<q->t.getD pos 0=10->∀lp sn,Reach (Ms (Cj t q p) 37 (pos+1) pos om (Mf .maxTail 35 pos om 0 false 0 none::Mf .closeLoop 17 pos om 0 false 0 none::fs) lp none none sn) Q (k+2))(N:¬(pos<q/\t.getD pos 0=10)->∀J u F D I,Reach (Ms (Cj t q p) J u F D fs #[] none (some false) I) Q k):∀{J u F:Nat}{D:Bool}{I:Seen},Reach (Ms (Cj t q p) J u F D (Mf .maxMore 35 pos om 0 true 0 none::Mf .closeLoop 17 pos om 0 false 0 none::fs) #[⟨17,0,some pos,none⟩] (some 0) (some false) I) Q (k+4):=by
 intro J u F D I;exact zJr (k:=k+3) (lp':=#[⟨17,-1,none,none⟩]) rfl rfl (fj O) (xD (c:=Cj t q p) (k:=k+2) (d:=10) (by show 35<junkC.size;decide) (by rfl) (by rfl) (λa1 a2 sn=>S a1 a2 _ sn) λL sn=>zSv (k:=k+1) (zSw rfl (N L _ _ _ _ _)))
theorem qDe(D:fs.length<100)(h1:∀sn,Reach (Ms (Cj t q p) 21 pos pos om (Mf .maxMore 35 pos om 0 true 0 none::Mf .closeLoop 17 pos om 0 false 0 none::fs) #[⟨17,0,some pos,none⟩] (some 0) none sn) Q k):Reach (Ms (Cj t q p) 17 pos hd om fs #[] none none sn) Q (k+2):=qIb (c:=Cj t q p) (k:=k+1) (by show 17<junkC.size;decide) (by rfl) (t:=34) (by rfl) (by show fs.length<10000;exact b7 D pi) λsn=>yA (c:=Cj t q p) (k:=k) (by show 34<junkC.size;decide) (by rfl) (l:=⟨17,-1,none,none⟩) rfl (by rfl) (mI _) (by show fs.length+1<10000;exact fj D) (λw sn=>h1 sn) λu=>d9 ⟨.inl (show(-1:Int)+1<((1:Nat):Int)by decide),λz=>nomatch z⟩ u
theorem qQu(h1:¬(pos<q/\t.getD pos 0=10))(h2:pos<q->t.getD pos 0=35->¬(pos+1<q/\(!Unicode.isSpace (t.getD (pos+1) 0)))):zLc (Cj t q p) 17 #[] none 8 pos:=by intro hd om fs sn Q k F hk;have u:∀{L D J:Nat}{I:Bool}{N:Seen},Reach (Ms (Cj t q p) L D J I (Mf .maxMore 35 pos om 0 true 0 none::Mf .closeLoop 17 pos om 0 false 0 none::fs) #[⟨17,0,some pos,none⟩] (some 0) (some false) N) Q (k+4):=qJv F (λa b=>d9 ⟨a,b⟩ h1) λz=>hk;exact qDe (k:=k+6) F λsn=>xD (c:=Cj t q p) (k:=k+5) (d:=35) (by show 21<junkC.size;decide) (by rfl) (by rfl) (λa1 a2 sn=>qGk (c:=Cj t q p) (k:=k+4) (w:=13) (a:=5) (b:=!Unicode.isSpace (t.getD (pos+1) 0)) (by show 23<junkC.size;decide) (by rfl) pi (by rfl) (λz sn=>qRs _ sn) (λS O=>d9 ⟨S,O⟩ (h2 a1 a2)) λz sn=>u) λz sn=>Reach.mono u (eM _)
theorem zHk(h:At t q p l)(L:NlL l)(F:q<300):∃r,qS junkC t p q=some r/\r.isSome=junkE l:=by
 cases l with
 |nil=>exact⟨none,kY pi h.le (by rw[h.nil,gU];decide),rfl⟩
 |cons d r =>
 generalize S:d::r=l at h L;have I:p<q:=by rw[<- S]at h;exact h.cons.1
 refine bo (h.spn (f:=blk)) λO s2=>?_;obtain hlen:=h.len;obtain hle:=qBz (f:=blk) l;have no:¬(p+(l.takeWhile blk).length<q/\t.getD (p+(l.takeWhile blk).length) 0=10)->(p+(l.takeWhile blk).length<q->t.getD (p+(l.takeWhile blk).length) 0=35->¬(p+(l.takeWhile blk).length+1<q/\(!Unicode.isSpace (t.getD (p+(l.takeWhile blk).length+1) 0))=true))->qS junkC t p q=some none:=by
  intro h1 h2;refine match_of (code:=junkC) (text:=t) (p:=p) (q:=q) (r:=none) (by exact I) λsn=>Reach.mono (k:=5000) (wM (c:=Cj t q p) qCn h.le (t:=17) rfl (n:=(l.takeWhile blk).length) (by rw[kI (by exact bj F)];exact O) (by show 0<10000;decide) λsn=>Reach.mono (qQu h1 h2 _ _ _ _ _ 4980 (by show 1<100;decide) λa6 Y a5 a4 a7=>Reach.mono (uN (K:=8) (k:=1) qCn rfl pi (λpos a1 a2=>qQu (λz=>?_) λy z=>?_) (λy y y y y=>qIc) _ _ _ _ _ _ _ _ (by exact hlen▸e6 hle _) (t4 _ _) λi hi=>?_) (by have:((l.takeWhile blk).length+1)*(8+1)<=301*9:=fH _ (by exact fb F hlen hle);exact b7 (e6 this 1) pi)) pi) pi
  .rw[z.2]at a2;exact d9 a2 pi
  .rw[z]at a2;exact d9 a2 pi
  .have:=h.run (f:=blk) i hi;rw[show p+(l.takeWhile blk).length-(l.takeWhile blk).length+i=p+i by exact dg];exact this
 have yes:∀e,(∀hd sn,Reach (Ms (Cj t q p) 17 (p+(l.takeWhile blk).length) hd true [Mf .giveBack 5 (p+(l.takeWhile blk).length) true (l.takeWhile blk).length false 0 none] #[] none none sn) (EndS p (some e)) 4999)->qS junkC t p q=some (some (p,e)):=by intro e U;exact match_of (code:=junkC) (text:=t) (p:=p) (q:=q) (r:=some e) (by exact I) λsn=>Reach.mono (k:=5000) (wM (c:=Cj t q p) qCn h.le (t:=17) rfl (n:=(l.takeWhile blk).length) (by rw[kI (by exact bj F)];exact O) (by show 0<10000;decide) λsn=>U _ sn) pi
 obtain hs:NlL (l.dropWhile blk):=L.suffix (eK _);unfold junkE;generalize p+(l.takeWhile blk).length=pos at s2 no yes;cases hd:l.dropWhile blk with
 |nil =>rw[hd]at s2;exact⟨none,no (λz=>d9 s2.nil (n3 z.1)) λz=>d9 s2.nil (n3 z),rfl⟩
 |cons c r =>
  rw[hd]at s2 hs;refine bg s2.cons λa1 a2 s3=>?_;show∃D,qS junkC t p q=some D/\D.isSome=if c=10 then true else if c=35 then zKr r else false;by_cases e:c=10
  .rw[d3 e];refine⟨_,yes (pos+1) λhd sn=>qDe (k:=4997) (by show 1<100;decide) λsn=>xD (c:=Cj t q p) (k:=4996) (d:=35) (by show 21<junkC.size;decide) (by rfl) (by rfl) (λy z=>d9 ((e.symm.trans a2.symm).trans z) pi) λy sn=>?_,rfl⟩;exact Reach.mono (qJv (k:=100) (by show 1<100;decide) (λy y lp sn=>qAn (c:=Cj t q p) (k:=101) (by show 37<junkC.size;decide) (by rfl) λsn=>Reach.mono (R_yes (c:=Cj t q p) (by rfl)) (by show 4<=101;decide)) λz=>d9 ⟨a1,a2.trans e⟩ z) pi
  .rw[b6 e];by_cases e2:c=35
   .rw[d3 e2];cases r with
    |nil =>refine⟨none,no (λz=>e (a2.symm.trans z.2)) λy y z=>d9 s3.nil (n3 z.1),rfl⟩
    |cons d r =>
     refine bg s3.cons λb1 N s4=>?_;show∃D,qS junkC t p q=some D/\D.isSome=!Unicode.isSpace d;cases u:j8 d with
     |true=>exact⟨none,no (λz=>e (a2.symm.trans z.2)) λy y z=>by rw[N,u]at z;exact d9 z.2 pi,rfl⟩
     |false =>
      obtain hr:NlL (d::r):=hs.suffix (n6 _ _);obtain⟨r2,T⟩:=zKt ((hr.suffix (n6 _ _)).mem (by
       rintro rfl
       rw[hr d rfl]at u;exact d9 u pi))
      refine bo (s4.spn (f:=(· != 10))) λX J=>?_;rw[T]at J;refine bg J.cons λV w2 y=>⟨_,yes (pos+1+1+(r.takeWhile (· != 10)).length+1) λhd sn=>qDe (k:=4997) (by show 1<100;decide) λsn=>xD (c:=Cj t q p) (k:=4996) (d:=35) (by show 21<junkC.size;decide) (by rfl) (by rfl) (λy y sn=>?_) λz=>d9 ⟨a1,a2.trans e2⟩ z,rfl⟩;refine qGk (c:=Cj t q p) (k:=4995) (w:=13) (a:=5) (b:=!Unicode.isSpace d) (by show 23<junkC.size;decide) (by rfl) pi (by rfl) (λy sn=>by rw[show(Cj t q p).text.getD (pos+1) 0=d from N];exact qRs _ sn) (λy y sn=>wM (c:=Cj t q p) (k:=4994) zGj s4.le (t:=34) rfl (n:=(r.takeWhile (· != 10)).length) (by rw[kI (by exact bj F)];exact X) (by show 3<10000;decide) λsn=>yA (c:=Cj t q p) (k:=4993) (by show 34<junkC.size;decide) (by rfl) (l:=⟨17,0,some pos,none⟩) rfl (by rfl) (by show(-1:Int)<=0;decide) (by show 4<10000;decide) (λZ=>?_) λy sn=>xD (c:=Cj t q p) (k:=4992) (d:=10) (by show 35<junkC.size;decide) (by rfl) (by rfl) (λy y sn=>qAn (c:=Cj t q p) (k:=4991) (by show 37<junkC.size;decide) (by rfl) λsn=>Reach.mono (R_yes (c:=Cj t q p) (by rfl)) (by show 6<=4991;decide)) λz=>d9 ⟨V,w2⟩ z) λz=>d9 ⟨b1,by rw[u];rfl⟩ z
      .rcases Z.1 with z|z
       .exact d9 (show(0:Int)+1<((1:Nat):Int)from z) pi
       .exact d9 (show(1:Nat)=maxRepeat from z) pi
   .rw[b6 e2];exact⟨none,no (λz=>e (a2.symm.trans z.2)) λy z=>d9 (a2.symm.trans z) e2,rfl⟩
end Mine.Lake.L09
namespace Mine.Lake.Rp
open PySem
noncomputable def Mk.up(g:Nat)(G:Ln)(m:Mk):Mk:={ level:=m.level,lno:=g+m.lno,gl:=G++m.gl.tail.map (g + ·),cont:=m.cont }
def Md.up(g:Nat):Md->Md
 | .out=>.out
 | .txt q w f=>.txt q w (g+f)
theorem qQr{m:Mk}(h:m.gl≠[]):m.line.gl≠[]:=by
 unfold Mk.line;by_cases e:m.level=0
 .rw[d3 e];exact List.append_ne_nil_of_left_ne_nil h _
 .rw[b6 e];exact h
theorem qQp{m:Mk}(h:m.gl≠[]):(m.up g G).line=m.line.up g G:=by
 unfold Mk.line Mk.up;by_cases e:m.level=0
 .simp only[d3 e];simp only[List.tail_append_of_ne_nil h,fD,u3];rfl
 .simp only[b6 e];rfl
theorem uM{α:Type}{f:α->α}[Decidable p]{a b u D:Option α}(h1:p->a=u.map f)(h2:¬p->b=D.map f):(if p then a else b)=(if p then u else D).map f:=by
 by_cases q:p
 .rw[d3 q,d3 q];exact h1 q
 .rw[b6 q,b6 q];exact h2 q
theorem qQc:∀(n:Nat)(md:Md)(l:Ln)(m:Mk),m.gl≠[]->scan n (md.up g) l (m.up g G)=(scan n md l m).map (Mk.up g G):=by
  intro D;induction D with
  |zero=>exactλy y y y=>rfl
  |succ n u =>
   exact fun
   | .out,[],m,h=>rfl
   | .txt q w f,[],m,h=>by
    show scan n .out [] { m.up g G with cont:=if g+m.lno=g+f+1 then 2 else 3 }=_;rw[(by
      by_cases q:m.lno=f+1
      · rw[d3 q,d3 (by rw[q];rfl)]
      · rw[b6 q,b6 λ(z:g+m.lno=g+f+1)=>q (gR (z:g+m.lno=g+(f+1)))]:(if g+m.lno=g+f+1 then 2 else 3)=if m.lno=f+1 then 2 else 3)]
    exact u .out [] { m with cont:=if m.lno=f+1 then 2 else 3 } h
   | .out,c::l,m,h=>by
    show scan (n+1) .out (c::l) (m.up g G)=_;rw[scan_out,scan_out];refine uM (λy=>u .out l m h) λy=>uM (λy=>(g0 (scan n .out l) (qQp h)).trans (u .out l m.line (qQr h))) λ_ =>
      uM (λy=>u .out l { m with level:=m.level+1 } h) λy=>uM (λy=>u .out l { m with level:=m.level-1 } h) λ_ =>
      uM (λy=>uM (λy=>u (.txt c 2 m.lno) _ m h) λy=>u (.txt c 0 m.lno) l m h) λ_ =>
      uM (λy=>uM (λy=>u .out _ m h) λy=>rfl) λy=>uM (λy=>?_) λy=>rfl
    cases l with
    |nil=>rfl
    |cons d l =>
      show scan n .out l _=(scan n .out l _).map _;by_cases q:d=10
      · rw[d3 q,d3 q]
        exact u .out l { m with lno:=m.lno+1,cont:=if l=[]then 1 else m.cont } h
      · rw[b6 q,b6 q]
        exact u .out l m h
   | .txt q w f,c::l,m,h=>by
    show scan (n+1) (.txt q w (g+f)) (c::l) (m.up g G)=_;rw[scan_txt,scan_txt];refine uM (λy=>u (.txt q w f) l m h) λy=>uM (λy=>u .out _ m h) λ_ =>
      uM (λy=>uM (λy=>(g0 (scan n .out l) (qQp h)).trans (u .out l m.line (qQr h))) λy=>u (.txt q w f) l { m with lno:=m.lno+1 } h) λ_ =>
      uM (λy=>?_) λy=>u (.txt q w f) l m h
    cases l with
    |nil=>rfl
    |cons d l =>
      show scan n (.txt q w (g+f)) l _=(scan n (.txt q w f) l _).map _;by_cases z:d=10
      · rw[d3 z,d3 z]
        exact u (.txt q w f) l { m with lno:=m.lno+1 } h
      · rw[b6 z,b6 z]
        exact u (.txt q w f) l m h
theorem xZ:∀q w f,Md.out=.txt q w f->q≠10:=λz z z h=>by cases h
theorem zV{l:Ln}(h:c≠10):(c::l).count 10=l.count 10:=pK (by simpa using h)
theorem qOi:∀l:Ln,(l.dropWhile (·≠10)).count 10=l.count 10:=by
 intro D;induction D with
 |nil=>exact  rfl
 |cons c l u =>
  rw[v1];by_cases h:c=10
  .rw[b6 (by simpa using h)]
  .rw[d3 (by simpa using h),u,zV h]
theorem uR{l:Ln}(h:l.take k=replicate k c)(hc:c≠10):(l.drop k).count 10=l.count 10:=by conv=>rhs;rw[<- gD k l,gP,h,List.count_replicate,b6 (by simpa using hc),fJ]
theorem qIu(h:scan n .out [] m=some M):M.gl=m.gl:=by
 cases n with
 |zero=>cases h
 |succ n=>subst h;rfl
theorem qYv{M:Mk}{x:Nat}(O:x∈M.gl):∀(n:Nat)(md:Md)(l:Ln)(m:Mk),(∀q w f,md=.txt q w f->q≠10)->scan n md l m=some M->x∉m.gl ->
    ∃k B m',B.length+n<=k+l.length/\10::B <:+ l/\m'.level=0/\m'.cont=m.cont/\m'.lno=x/\(∃G',m'.gl=G'++[x]/\m.gl <+:G')/\m.lno+l.count 10=x+B.count 10/\scan k .out B m'=some M:=by
  intro zz;induction zz with
  |zero=>intro _ _ _ _ h _;cases h
  |succ n L =>
   exact fun
   | .out,[],m,_,h,hm=>by subst h;exact d9 O hm
   | .txt q w f,[],m,hq,h,hm=>d9 (qIu h▸O) hm
   | .out,c::l,m,hq,h,hm=>by
    have go:∀{md1 l1 m1},(∀q w f,md1=.txt q w f->q≠10)->l1 <:+ l->m1.gl=m.gl->m1.cont=m.cont->m1.lno+l1.count 10=m.lno+(c::l).count 10->scan n md1 l1 m1=some M ->
        ∃k B m',B.length+(n+1)<=k+(c::l).length/\10::B <:+ c::l/\m'.level=0/\m'.cont=m.cont/\m'.lno=x/\(∃G',m'.gl=G'++[x]/\m.gl <+:G')/\m.lno+(c::l).count 10=x+B.count 10/\scan k .out B m'=some M:=λI h1 h2 hc h3 h4=>fv (L _ _ _ I h4 (h2▸hm)) λk B m' a b c D d e f g=>⟨k,B,m',n9 (b7 a (e6 h1.length_le k)),(b.trans h1).trans (n6 _ _),c,D.trans hc,d,h2▸e,h3.symm.trans f,g⟩
    have nl:c=10->scan n .out l m.line=some M->∃k B m',B.length+(n+1)<=k+(c::l).length/\10::B <:+ c::l/\m'.level=0/\m'.cont=m.cont/\m'.lno=x/\(∃G',m'.gl=G'++[x]/\m.gl <+:G')/\m.lno+(c::l).count 10=x+B.count 10/\scan k .out B m'=some M:=λhc h=>by
      have u:(c::l).count 10=l.count 10+1:=by rw[hc];exact gY
      by_cases e:m.level=0
      · have hg:m.line.gl=m.gl++[m.lno+1]:=d3 e
        by_cases q:x=m.lno+1
        · exact⟨n,l,m.line,n9 (v6 (m7 _ _)),hc▸bP _,e,rfl,q.symm,⟨m.gl,by rw[hg,q],eP _⟩,by rw[u,q];exact(i8 _ 1 _).symm,h⟩
        · obtain⟨k,B,m',a,b,c',D,d,⟨G',e1,e2⟩,f,g⟩:=L .out l m.line xZ h (by rw[hg];exactλz=>(List.mem_append.mp z).elim hm λz=>q (List.mem_singleton.mp z))
          exact⟨k,B,m',n9 a,b.trans (n6 _ _),c',D,d,⟨G',e1,(nH _ _).trans (hg▸e2)⟩,by rw[u];exact(i8 m.lno 1 _).symm.trans f,g⟩
      · exact go (m1:=m.line) xZ (bP l) (b6 e) rfl (by rw[u];exact i8 m.lno 1 _) h
    rw[scan_out]at h;by_cases h1:c=120
    · obtain h:=aw h1 h;exact go xZ (bP l) rfl rfl (by rw[zV (by rw[h1];decide)]) h
    replace h:=ao h1 h;by_cases h2:c=10
    · obtain h:=aw h2 h;exact nl h2 h
    replace h:=ao h2 h;by_cases h3:c=40
    · obtain h:=aw h3 h;exact go (m1:={ m with level:=m.level+1 }) xZ (bP l) rfl rfl (by rw[zV h2]) h
    replace h:=ao h3 h;by_cases h4:c=41
    · obtain h:=aw h4 h;exact go (m1:={ m with level:=m.level-1 }) xZ (bP l) rfl rfl (by rw[zV h2]) h
    replace h:=ao h4 h;by_cases h5:c=34\/c=39
    · replace h:=aw h5 h
      by_cases N:(c::l).take 3=[c,c,c]
      · replace h:=aw N h
        exact go (λq w f e=>by injection e with e;subst e;exact h2) (bD 2 l) rfl rfl (by rw[zV h2,uR (k:=2) (t9 N).2 h2]) h
      · replace h:=ao N h
        exact go (λq w f e=>by injection e with e;subst e;exact h2) (bP l) rfl rfl (by rw[zV h2]) h
    replace h:=ao h5 h;by_cases S:c=35
    · replace h:=aw S h
      by_cases X:10∈l
      · obtain h:=aw X h
        exact go xZ (eK _) rfl rfl (by rw[zV h2,qOi]) h
      · replace h:=ao X h;cases h
    replace h:=ao S h;by_cases F:c=92
    · replace h:=aw F h
      cases l with
      |nil=>cases h
      |cons d l =>
        obtain h:scan n .out l (if d=10 then{ m with lno:=m.lno+1,cont:=if l=[]then 1 else m.cont }else m)=some M:=h;by_cases e:d=10
        · rw[d3 e]at h
          by_cases Y:l=[]
          · clear e F S h5 h4 h3 h2 h1 nl go
            subst Y;exact d9 (qIu h▸O) hm
          rw[b6 Y]at h;exact go (m1:={ m with lno:=m.lno+1,cont:=m.cont }) xZ (n6 _ _) rfl rfl (by rw[zV h2,e,gY];exact i8 m.lno 1 _) h
        · rw[b6 e]at h
          exact go xZ (n6 _ _) rfl rfl (by rw[zV h2,zV e]) h
    replace h:=ao F h;cases h
   | .txt q w f,c::l,m,hq,h,hm=>by
    obtain q10:q≠10:=hq q w f rfl;have go:∀{md1 l1 m1},(∀q w f,md1=.txt q w f->q≠10)->l1 <:+ l->m1.gl=m.gl->m1.cont=m.cont->m1.lno+l1.count 10=m.lno+(c::l).count 10->scan n md1 l1 m1=some M ->
        ∃k B m',B.length+(n+1)<=k+(c::l).length/\10::B <:+ c::l/\m'.level=0/\m'.cont=m.cont/\m'.lno=x/\(∃G',m'.gl=G'++[x]/\m.gl <+:G')/\m.lno+(c::l).count 10=x+B.count 10/\scan k .out B m'=some M:=λI h1 h2 hc h3 h4=>fv (L _ _ _ I h4 (h2▸hm)) λk B m' a b c D d e f g=>⟨k,B,m',n9 (b7 a (e6 h1.length_le k)),(b.trans h1).trans (n6 _ _),c,D.trans hc,d,h2▸e,h3.symm.trans f,g⟩
    have J:∀T Z V,Md.txt q w f=.txt T Z V->T≠10:=λT Z V e=>by injection e with e;subst e;exact q10
    rw[scan_txt]at h;by_cases h1:c=120
    · obtain h:=aw h1 h;exact go J (bP l) rfl rfl (by rw[zV (by rw[h1];decide)]) h
    replace h:=ao h1 h;by_cases h2:(c::l).take (w+1)=quoteOf q w
    · replace h:=aw h2 h
      have U:=t9 (h2);exact go xZ (bD w l) rfl rfl (by rw[zV (U.1▸q10),uR U.2 q10]) h
    replace h:=ao h2 h;by_cases h3:c=10
    · obtain h:=aw h3 h
      have u:(c::l).count 10=l.count 10+1:=by rw[h3];exact gY
      by_cases I:w=0
      · replace h:=aw I h
        by_cases e:m.level=0
        · have hg:m.line.gl=m.gl++[m.lno+1]:=d3 e
          by_cases z:x=m.lno+1
          · exact⟨n,l,m.line,n9 (v6 (m7 _ _)),h3▸bP _,e,rfl,z.symm,⟨m.gl,by rw[hg,z],eP _⟩,by rw[u,z];exact(i8 _ 1 _).symm,h⟩
          · obtain⟨k,B,m',a,b,c',D,d,⟨G',e1,e2⟩,f,g⟩:=L .out l m.line xZ h (by rw[hg];exactλy=>(List.mem_append.mp y).elim hm λy=>z (List.mem_singleton.mp y))
            exact⟨k,B,m',n9 a,b.trans (n6 _ _),c',D,d,⟨G',e1,(nH _ _).trans (hg▸e2)⟩,by rw[u];exact(i8 m.lno 1 _).symm.trans f,g⟩
        · exact go (m1:=m.line) xZ (bP l) (b6 e) rfl (by rw[u];exact i8 m.lno 1 _) h
      · obtain h:=ao I h
        exact go (m1:={ m with lno:=m.lno+1 }) J (bP l) rfl rfl (by rw[u];exact i8 m.lno 1 _) h
    replace h:=ao h3 h;by_cases F:c=92
    · replace h:=aw F h
      clear F h2;cases l with
      |nil=>cases h
      |cons d l =>
        have h:scan n (.txt q w f) l (if d=10 then{ m with lno:=m.lno+1 }else m)=some M:=h;by_cases e:d=10
        · rw[d3 e]at h
          exact go (m1:={ m with lno:=m.lno+1 }) J (n6 _ _) rfl rfl (by rw[zV h3,e,gY];exact i8 m.lno 1 _) h
        · rw[b6 e]at h
          exact go J (n6 _ _) rfl rfl (by rw[zV h3,zV e]) h
    obtain h:=ao F h;exact go J (bP l) rfl rfl (by rw[zV h3]) h
noncomputable def m00:Mk:=⟨0,0,[0],0⟩
theorem qTl(h:scan n .out l m00=some M):M.gl=0::M.gl.tail:=by obtain e:=qQc (g:=0) (G:=[0]) n .out l m00 (by intro q;cases q);rw[h]at e;have e2:scan n .out l m00=some (M.up 0 [0]):=e;rw[h]at e2;obtain e3:M.gl=[0]++M.gl.tail.map (0 + ·):=g0 Mk.gl (b5 e2);rw[show(M.gl.tail.map (0 + ·))=M.gl.tail from by rw[show((0 + ·):Nat->Nat)=id from funext λx=>fJ x,nU]]at e3;exact e3
theorem qSl(h:scan n .out l m00=some M)(hg:g∈M.gl):∃k B M0 G',B.length+n<=k+l.length/\(10::B <:+ l\/(g=0/\B=l))/\l.count 10=g+B.count 10/\scan k .out B m00=some M0/\M0.level=M.level/\M0.cont=M.cont/\M.lno=g+M0.lno/\M.gl=G'++M0.gl.map (g + ·):=by
 by_cases F:g=0
 .subst F;refine⟨n,l,M,[],v6 (m7 _ _),.inr ⟨rfl,rfl⟩,(fJ _).symm,h,rfl,rfl,(fJ _).symm,?_⟩;rw[show((0 + ·):Nat->Nat)=id from funext λx=>fJ x,nU];rfl
 .obtain⟨k,B,m',hk,I,h1,h2,h3,⟨G',e1,_⟩,hc,hs⟩:=qYv hg n .out l m00 xZ h (λq=>F (List.mem_singleton.mp q));have e:m'=m00.up g (G'++[g]):=by obtain⟨a,b,c,d⟩:=m';simp only at h1 h2 h3 e1;subst h1 h2 h3 e1;unfold Mk.up m00;simp
  rw[e]at hs;obtain hs:scan k (Md.up g .out) B (m00.up g (G'++[g]))=some M:=hs;rw[qQc k .out B m00 (by intro q;exact nomatch q)]at hs;refine qa hs λM0 u D=>?_;subst D;refine⟨k,B,M0,G',hk,.inl I,(fJ _).symm.trans hc,u,rfl,rfl,rfl,?_⟩;show(G'++[g])++M0.gl.tail.map (g + ·)=G'++M0.gl.map (g + ·);rw[u3];conv=>rhs;rw[qTl u]
  rfl
theorem zCi{M M0:Mk}{g c:Nat}{G' R:Ln}(h1:M0.level=M.level)(h2:M0.cont=M.cont)(h3:M.lno=g+M0.lno)(h4:M.gl=G'++M0.gl.map (g + ·))(D:M0.gl≠[])(h:ends M=some (R,c)):∃R0,ends M0=some (R0,c)/\R=G'++R0.map (g + ·):=by
 have u:(M.gl.getLast?=some M.lno)=(M0.gl.getLast?=some M0.lno):=by
  obtain⟨y,F⟩:∃y,M0.gl.getLast?=some y:=⟨_,r5 D⟩
  rw[h4,h3,mJ,nV,F];exact propext ⟨λq=>g0 some (gR (b5 q)),λq=>g0 (λz=>some (g+z)) (b5 q)⟩
 unfold ends at h |-;simp only[u,<- h1,<- h2]at h;simp only;by_cases q:decide ((if M0.cont≠2/\M0.cont≠3/\0<M0.level then 4 else M0.cont)=0)=decide (M0.gl.getLast?=some M0.lno)
 .rw[d3 q]at h |-;cases h;refine⟨_,rfl,?_⟩;by_cases z:M0.gl.getLast?=some M0.lno
  .rw[d3 z,d3 z];exact h4
  .rw[b6 z,b6 z,h4,h3,fD,u3];rfl
 .rw[b6 q]at h;cases h
end Mine.Lake.Rp
namespace Mine.Lake.L09
open PySem Mine.Lake Mine.Lake.Rp Mine.Lake.Re
noncomputable def takeR:Ln->Nat->Ln
 | [],_=>[]
 |_::_,0=>[]
 |c::l,r+1=>c::takeR l (if c=10 then r else r+1)
noncomputable def dropR:Ln->Nat->Ln
 | [],_=>[]
 |c::l,0=>c::l
 |c::l,r+1=>dropR l (if c=10 then r else r+1)
def Lines(A:Ln):Prop:=A=[]\/isLine A
theorem qPw:∀l:Ln,takeR l 0=[]
 | []=>rfl
 |_::_=>rfl
theorem vD:∀l:Ln,dropR l 0=l
 | []=>rfl
 |_::_=>rfl
theorem qM:∀(l:Ln)(r:Nat),takeR l r++dropR l r=l
 | [],_=>rfl
 |_::_,0=>rfl
 |c::l,r+1=>g0 (c::·) (qM l _)
theorem Lines.cons(h:Lines A)(hc:A=[]->c=10):Lines (c::A):=by
 rcases h with rfl|⟨q,rfl⟩
 .rw[hc rfl];exact .inr ⟨[],rfl⟩
 .exact .inr ⟨c::q,rfl⟩
theorem Lines.tail{c:Nat}{A:Ln}(h:Lines (c::A)):Lines A/\(A=[]->c=10):=by
 obtain⟨q,e⟩:=h.resolve_left (λq=>nomatch q);clear h;cases q with
 |nil=>injection e with e h_;subst e h_;exact⟨.inl rfl,λw=>rfl⟩
 |cons d q=>injection e with e h_;subst e h_;exact⟨.inr ⟨q,rfl⟩,λz=>d9 z (by simp)⟩
theorem Lines.app(u:Lines A)(D:Lines B):Lines (A++B):=by
 rcases D with rfl|⟨q,rfl⟩
 .rw[eF];exact u
 .exact .inr ⟨A++q,by rw[u3]⟩
theorem qAz(l:Ln):(10::l).count 10=l.count 10+1:=gY
theorem qAj(h:c≠10)(l:Ln):(c::l).count 10=l.count 10:=pK (by simpa using h)
theorem zW:∀(l:Ln)(r:Nat),r<=l.count 10->Lines (takeR l r)/\(takeR l r).count 10=r
 | [],r,h=>⟨.inl rfl,(Nat.le_zero.mp h).symm⟩
 |_::_,0,_=>⟨.inl rfl,rfl⟩
 |c::l,r+1,h=>by
  by_cases hc:c=10
  .subst hc
   rw[qAz]at h
   obtain⟨h1,h2⟩:=zW l r (r7 h)
   show Lines (10::takeR l r)/\(10::takeR l r).count 10=r+1
   exact⟨h1.cons λq=>rfl,by rw[qAz,h2]⟩
  .rw[qAj hc]at h
   obtain⟨h1,h2⟩:=zW l (r+1) h
   obtain e:takeR (c::l) (r+1)=c::takeR l (r+1):=g0 (λz=>c::takeR l z) (b6 hc)
   rw[e]
   refine⟨h1.cons λz=>?_,by rw[qAj hc,h2]⟩
   rw[z]at h2;cases h2
theorem kM:∀(l:Ln)(r s:Nat),dropR l (r+s)=dropR (dropR l r) s
 | [],_,_=>rfl
 |_::_,0,s=>by rw[fJ];rfl
 |c::l,r+1,s=>by
  by_cases hc:c=10
  .subst hc
   rw[i8]
   exact kM l r s
  .obtain e1:dropR (c::l) (r+1)=dropR l (r+1):=g0 (dropR l) (b6 hc)
   rw[e1,(by
    rw[i8];exact g0 (dropR l) (b6 hc):dropR (c::l) (r+1+s)=dropR l (r+1+s))];exact kM l (r+1) s
theorem hV:∀(l:Ln)(r s:Nat),takeR l (r+s)=takeR l r++takeR (dropR l r) s
 | [],_,_=>rfl
 |_::_,0,s=>by rw[fJ];rfl
 |c::l,r+1,s=>by
  by_cases hc:c=10
  .subst hc;rw[i8];exact g0 (10::·) (hV l r s)
  .obtain e1:takeR (c::l) (r+1)=c::takeR l (r+1):=g0 (λz=>c::takeR l z) (b6 hc);obtain e2:takeR (c::l) (r+1+s)=c::takeR l (r+1+s):=by rw[i8];exact g0 (λz=>c::takeR l z) (b6 hc)
   obtain e3:dropR (c::l) (r+1)=dropR l (r+1):=g0 (dropR l) (b6 hc);rw[e1,e2,e3,hV l (r+1) s];rfl
theorem qVk:∀(A B:Ln),Lines A->dropR (A++B) (A.count 10)=B:=by
 intro D;induction D with
 |nil=>exactλB w=>vD B
 |cons c A u =>
  intro B h;obtain⟨h1,h2⟩:=h.tail;by_cases hc:c=10
  .subst hc;rw[qAz];exact u B h1
  .rw[qAj hc];obtain⟨k,hk⟩:∃k,A.count 10=k+1:=by obtain⟨q,rfl⟩:=h1.resolve_left λz=>hc (h2 z);exact⟨q.count 10,by rw[gP];rfl⟩
   obtain ih:=u B h1;rw[hk]at ih |-;exact(g0 (dropR (A++B)) (b6 hc)).trans ih
theorem zN(h:r<=l.count 10):(dropR l r).count 10+r=l.count 10:=by have:=g0 (List.count 10) (qM l r);rw[gP,(zW l r h).2,m7]at this;exact this
theorem qFu{f:Nat->Nat}(u:∀c,f c=10 ↔ c=10):∀(l:Ln)(r:Nat),dropR (l.map f) r=(dropR l r).map f
 | [],_=>rfl
 |_::_,0=>rfl
 |c::l,r+1=>by
  show dropR (l.map f) (if f c=10 then r else r+1)=(dropR l (if c=10 then r else r+1)).map f
  rw[(by
   by_cases h:c=10
   .rw[d3 h,d3 ((u c).mpr h)]
   .rw[b6 h,b6 λz=>h ((u c).mp z)]:(if f c=10 then r else r+1)=if c=10 then r else r+1)];exact qFu u l _
theorem jC(c:Nat):tr12 c=10 ↔ c=10:=by
 constructor
 .intro h;by_cases h1:c=40\/c=123\/c=91
  .replace h:=aw h1 h;cases h
  .obtain h:=ao h1 h;by_cases h2:c=41\/c=125\/c=93
   .replace h:=aw h2 h;cases h
   .replace h:=ao h2 h;by_cases h3:c=34\/c=39\/c=92\/c=10\/c=35
    .obtain h:=aw h3 h;exact h
    .replace h:=ao h3 h;cases h
 .rintro rfl;rfl
theorem zIw(l:Ln):(l.map tr12).count 10=l.count 10:=by
 induction l with
 |nil=>rfl
 |cons c l u =>
  rw[fX];by_cases h:c=10
  .subst h;rw[show tr12 10=10 from rfl,qAz,qAz,u]
  .rw[qAj h,qAj (λz=>h ((jC c).mp z)),u]
def ofs(l:Ln)(r:Nat):Nat:=(takeR l r).length
theorem wT(l:Ln)(r s:Nat):ofs l (r+s)=ofs l r+ofs (dropR l r) s:=by unfold ofs;rw[hV,g8]
theorem qCx(l:Ln)(r:Nat):l.drop (ofs l r)=dropR l r:=by have:=@nJ Nat (takeR l r) (dropR l r);rw[qM]at this;exact this
theorem qJj(l:Ln)(r:Nat):l.take (ofs l r)=takeR l r:=by have:=@nK Nat (takeR l r) (dropR l r);rw[qM]at this;exact this
theorem qCw(l:Ln)(r:Nat):ofs l r<=l.length:=by have:=g0 List.length (qM l r);rw[g8]at this;exact iJ this
theorem ofs_pos(h:r<=l.count 10)(u:0<r):0<ofs l r:=by refine List.length_pos_iff.mpr λz=>?_;have:=(zW l r h).2;rw[z]at this;exact d9 this (n3 u)
theorem qL(l:Ln)(r:Nat):dropR l r <:+ l:=⟨_,qM l r⟩
def S8(l:Ln):Prop:=∀c∈l,c∈[120,10,40,41,34,39,35,92]
theorem zEk(c:Nat):tr12 c∈[120,10,40,41,34,39,35,92]:=by
 unfold tr12;by_cases h1:c=40\/c=123\/c=91
 .rw[d3 h1];decide
 .rw[b6 h1];by_cases h2:c=41\/c=125\/c=93
  .rw[d3 h2];decide
  .rw[b6 h2];by_cases h3:c=34\/c=39\/c=92\/c=10\/c=35
   .rw[d3 h3];clear h2 h1;rcases h3 with rfl|rfl|rfl|rfl|rfl <;> decide
   .rw[b6 h3];decide
theorem NlL.more(h:NlL (A++B))(h1:10∉A)(h2:A≠[]):B≠[]:=by rintro rfl;rw[eF]at h;exact h1 (by have:=h _ (r5 h2);rw[<- this];exact oQ h2)
theorem NlL.one{l:Ln}(h:NlL (c::l))(hc:c≠10):l≠[]:=NlL.more (A:=[c]) h (λz=>hc (List.mem_singleton.mp z).symm) (lC _ _)
structure Fine(m:Mk):Prop where
 ne:m.gl≠[]
 up:∀g∈m.gl,g<=m.lno
 asc:m.gl.Pairwise (· < ·)
def uY(m:Mk):Prop:=(if m.cont≠2/\m.cont≠3/\0<m.level then 4 else m.cont)=0 ↔ m.gl.getLast?=some m.lno
def zLd:Md->Mk->Prop
 | .out,m=>uY m/\m.cont<=3
 | .txt _ _ _,m=>m.gl.getLast?≠some m.lno
def zJt:Md->Prop
 | .out=>True
 | .txt q w _=>(q=34\/q=39)/\(w=0\/w=2)
structure Res(m:Mk)(l:Ln)(M:Mk):Prop where
 lno:M.lno=m.lno+l.count 10
 pre:m.gl <+:M.gl
 fine:Fine M
 ok:uY M
 ct:M.cont<=3
section
variable{m:Mk}
set_option tactic.hygienic true in
theorem Fine.next(h:Fine m)(h1:m'.gl=m.gl)(h2:m.lno<=m'.lno):Fine m':=⟨h1▸h.ne,λg hg=>b7 (h.up g (h1▸hg)) h2,h1▸h.asc⟩
theorem Fine.old(h:Fine m){m':Mk}(h1:m'.gl=m.gl)(h2:m'.lno=m.lno+1):m'.gl.getLast?≠some m'.lno:=λz=>by
 rw[h1,h2]at z
 exact d9 (h.up _ (mK z)) (Nat.not_succ_le_self _)
set_option tactic.hygienic true in
theorem Fine.line(h:Fine m):Fine m.line:=by
 by_cases e:m.level=0
 .have hg:m.line.gl=m.gl++[m.lno+1]:=d3 e;refine⟨by rw[hg];simp,λg hm=>?_,?_⟩
  .rw[hg]at hm;rcases List.mem_append.mp hm with hm|hm
   .exact m3 (h.up g hm)
   .rw[List.mem_singleton.mp hm];exact i5 _
  .rw[hg];exact List.pairwise_append.mpr ⟨h.asc,oR _ _,λa u b D=>by rw[List.mem_singleton.mp D];exact v7 (h.up a u)⟩
 .exact h.next (b6 e) (eM _)
theorem zAz:m.gl <+:m.line.gl:=by
 by_cases e:m.level=0
 .rw[show m.line.gl=m.gl++[m.lno+1]from d3 e];exact nH _ _
 .rw[show m.line.gl=m.gl from b6 e];exact eP _
theorem qQq(h:Fine m)(hc:m.cont=0):uY m.line:=by
 unfold uY;by_cases e:m.level=0
 .obtain hg:m.line.gl=m.gl++[m.lno+1]:=d3 e;rw[show m.line.cont=0 from hc,show m.line.level=0 from e,hg,b6 (λz=>d9 z.2.2 (fP 0)),gL];exact⟨λq=>rfl,λq=>rfl⟩
 .rw[show m.line.cont=0 from hc,d3 ⟨by decide,by decide,r6 e⟩];exact⟨λz=>(by cases z),λz=>d9 z (h.old (b6 e) rfl)⟩
theorem qRg(hc:m'.cont≠0)(h:m'.gl.getLast?≠some m'.lno):uY m':=by
 refine⟨λz=>?_,λz=>d9 z h⟩;exfalso;by_cases q:m'.cont≠2/\m'.cont≠3/\0<m'.level
 .obtain z:=aw q z;exact nomatch z
 .obtain z:=ao q z;exact hc z
end
set_option tactic.hygienic true in
theorem wB:∀(n:Nat)(md:Md)(l:Ln)(m:Mk),l.length<=n->zJt md->NlL l->S8 l->Fine m->(l≠[]->m.cont=0)->(l=[]->zLd md m)->∃M,march md l m=some M/\Res m l M
 |_,.out,[],m,_,_,_,_,hF,_,he=>⟨m,rfl,rfl,eP _,hF,(he rfl).1,(he rfl).2⟩
 |_,.txt q w f,[],m,_,_,_,_,hF,_,he=>by
  refine⟨{ m with cont:=if m.lno=f+1 then 2 else 3 },rfl,rfl,eP _,hF.next rfl (i5 _),qRg ?_ (he rfl),?_⟩
  .show(if m.lno=f+1 then 2 else 3)≠0
   by_cases z:m.lno=f+1
   .rw[d3 z];decide
   .rw[b6 z];decide
  .show(if m.lno=f+1 then 2 else 3)<=3
   by_cases z:m.lno=f+1
   .rw[d3 z];decide
   .rw[b6 z];decide
 |0,_,_::_,_,h,_,_,_,_,_,_=>d9 h (bY _)
 |n+1,md,c::l,m,T,hmd,hn,h8,hF,hc,_=>by
  replace T:=r7 T
  replace hc:=hc (lC _ _)
  have go:∀{md':Md}{l':Ln}{m':Mk},l' <:+ l->zJt md'->Fine m'->(l'≠[]->m'.cont=0)->(l'=[]->zLd md' m')->m.gl <+:m'.gl->m'.lno+l'.count 10=m.lno+(c::l).count 10->∃M,march md' l' m'=some M/\Res m (c::l) M:=λhs h1 h2 h3 h4 h5 I=>by
   obtain⟨M,e,a,b,c',d,Y⟩:=wB n _ _ _ (b7 hs.length_le T) h1 (hn.suffix (hs.trans (n6 _ _))) (λz Z=>h8 z (.tail _ (hs.mem Z))) h2 h3 h4
   exact⟨M,e,a.trans I,h5.trans b,c',d,Y⟩
  have same:∀{md':Md}{l':Ln}{m':Mk},l' <:+ l->l'≠[]->zJt md'->m'.gl=m.gl->m'.lno=m.lno->m'.cont=m.cont->l'.count 10=(c::l).count 10->∃M,march md' l' m'=some M/\Res m (c::l) M:=λhs O h1 h2 h3 h4 h5 =>
   go hs h1 (hF.next h2 (v6 h3.symm)) (λy=>h4.trans hc) (λz=>d9 z O) (h2▸eP _) (by rw[h3,h5])
  have line:c=10->∃M,march .out l m.line=some M/\Res m (c::l) M:=λe =>
   go (bP l) trivial hF.line (λy=>hc) (λy=>⟨qQq hF hc,b7 (v6 hc) (v0 _)⟩) zAz (by rw[e,qAz];exact i8 _ _ _)
  have bs:∀(md':Md),c=92->zJt md'->(∀d l',l=d::l'->d=10->∃M,march md' l' (match md' with| .out=>{ m with lno:=m.lno+1,cont:=if l'=[]then 1 else m.cont }| .txt _ _ _=>{ m with lno:=m.lno+1 })=some M/\Res m (c::l) M)/\(∀d l',l=d::l'->d≠10->∃M,march md' l' m=some M/\Res m (c::l) M):=λmd' e h1=>by
   subst e
   refine⟨λd l' e1 e2=>?_,λd l' e1 e2=>?_⟩
   .subst e1 e2
    have J:m.lno+1+l'.count 10=m.lno+(92::10::l').count 10:=by rw[qAj pi,qAz];exact i8 _ _ _
    cases md' with
    |out =>
     refine go (m':={ m with lno:=m.lno+1,cont:=if l'=[]then 1 else m.cont }) (n6 _ _) h1 (hF.next rfl (eM _)) (λz=>(b6 z).trans hc) (λz=>⟨qRg ?_ (hF.old rfl rfl),?_⟩) (eP _) J
     .show(if l'=[]then 1 else m.cont)≠0
      rw[d3 z];decide
     .show(if l'=[]then 1 else m.cont)<=3
      rw[d3 z];decide
    |txt q w f =>
     exact go (m':={ m with lno:=m.lno+1 }) (n6 _ _) h1 (hF.next rfl (eM _)) (λz=>hc) (λz=>hF.old rfl rfl) (eP _) J
   .subst e1
    exact same (n6 _ _) (NlL.more (A:=[92,d]) hn (by simp;exactλz=>e2 z.symm) (by simp)) h1 rfl rfl rfl (by rw[qAj pi,qAj e2])
  have S:=h8 c (.head _)
  cases md with
  |out =>
   rw[mout]
   by_cases h1:c=120
   .rw[d3 h1]
    exact same (bP l) (hn.one (by rw[h1];decide)) trivial rfl rfl rfl (qAj (by rw[h1];decide) l).symm
   rw[b6 h1]
   by_cases h2:c=10
   .rw[d3 h2];exact line h2
   rw[b6 h2]
   have u:=hn.one h2
   have D:=(qAj h2 l).symm
   by_cases h3:c=40
   .rw[d3 h3];exact same (m':={ m with level:=m.level+1 }) (bP l) u trivial rfl rfl rfl D
   rw[b6 h3]
   by_cases h4:c=41
   .rw[d3 h4];exact same (m':={ m with level:=m.level-1 }) (bP l) u trivial rfl rfl rfl D
   rw[b6 h4]
   by_cases h5:c=34\/c=39
   .rw[d3 h5]
    by_cases I:(c::l).take 3=[c,c,c]
    .rw[d3 I]
     refine same (md':=.txt c 2 m.lno) (bD 2 l) (NlL.more (A:=[c,c,c]) (B:=l.drop 2) ?_ (by simp;exactλz=>h2 z.symm) (by simp)) ⟨h5,.inr rfl⟩ rfl rfl rfl ((uR (k:=2) ((t9 I).2) h2).trans D)
     have:=gD 3 (c::l)
     rw[I]at this
     rw[show[c,c,c]++l.drop 2=c::l from this];exact hn
    .rw[b6 I]
     exact same (md':=.txt c 0 m.lno) (bP l) u ⟨h5,.inl rfl⟩ rfl rfl rfl D
   rw[b6 h5]
   by_cases V:c=35
   .rw[d3 V]
    obtain hm:=(hn.suffix (n6 c l)).mem u
    rw[d3 hm]
    refine same (eK _) (λz=>?_) trivial rfl rfl rfl ((qOi l).trans D)
    have:=qOi l
    rw[z]at this
    exact d9 (List.count_pos_iff.mpr hm) (by rw[<- this];exact fP 0)
   rw[b6 V]
   by_cases F:c=92
   .rw[d3 F]
    refine cg (eT u) λd r L=>?_;subst L
    obtain⟨X,U⟩:=bs .out F trivial
    show∃M,march .out r (if d=10 then _ else m)=some M/\_
    by_cases z:d=10
    .rw[d3 z]
     exact X d r rfl z
    .rw[b6 z];exact U d r rfl z
   .exfalso
    simp only[pN,List.not_mem_nil,or_false]at S
    rcases S with z|z|z|z|z|z|z|z
    .exact h1 z
    .exact h2 z
    .exact h3 z
    .exact h4 z
    .exact h5 (.inl z)
    .exact h5 (.inr z)
    .exact V z
    .exact F z
  |txt q w f =>
   rw[mtxt]
   have N:q≠10:=by rcases hmd.1 with z|z <;> (rw[z];decide)
   by_cases h1:c=120
   .rw[d3 h1]
    exact same (md':=.txt q w f) (bP l) (hn.one (by rw[h1];decide)) hmd rfl rfl rfl (qAj (by rw[h1];decide) l).symm
   rw[b6 h1]
   by_cases h2:(c::l).take (w+1)=quoteOf q w
   .rw[d3 h2]
    obtain hh:=t9 (h2)
    refine same (bD w l) (NlL.more (A:=quoteOf q w) (B:=l.drop w) ?_ (λz=>N (iX z).symm) (by unfold quoteOf;rw[gS];simp)) trivial rfl rfl rfl ((uR hh.2 N).trans (qAj (hh.1▸N) l).symm)
    have:=gD (w+1) (c::l)
    rw[h2]at this
    rw[show quoteOf q w++l.drop w=c::l from this];exact hn
   rw[b6 h2]
   by_cases h3:c=10
   .rw[d3 h3]
    by_cases O:w=0
    .rw[d3 O];exact line h3
    .rw[b6 O]
     exact go (md':=.txt q w f) (m':={ m with lno:=m.lno+1 }) (bP l) hmd (hF.next rfl (eM _)) (λy=>hc) (λy=>hF.old rfl rfl) (eP _) (by rw[h3,qAz];exact i8 _ _ _)
   rw[b6 h3]
   have u:=hn.one h3
   by_cases F:c=92
   .rw[d3 F]
    refine cg (eT u) λd r L=>?_;subst L
    obtain⟨X,U⟩:=bs (.txt q w f) F hmd
    show∃M,march (.txt q w f) r (if d=10 then _ else m)=some M/\_
    by_cases z:d=10
    .rw[d3 z]
     exact X d r rfl z
    .rw[b6 z];exact U d r rfl z
   .rw[b6 F]
    exact same (md':=.txt q w f) (bP l) u hmd rfl rfl rfl (qAj h3 l).symm
structure Tell(l:Ln)(M:Mk)(R:Ln)(c:Nat):Prop where
 nl:NlL l
 ma:march .out (l.map tr12) m00=some M
 re:Res m00 (l.map tr12) M
 en:ends M=some (R,c)
theorem zAe(h:NlL l):NlL (l.map tr12):=λc hc=>by
 rw[nV]at hc
 obtain⟨d,hd,rfl⟩:=qb hc
 rw[h d hd];rfl
theorem qYw(l:Ln):S8 (l.map tr12):=λc hc=>by
 obtain⟨d,_,rfl⟩:=List.mem_map.mp hc
 exact zEk d
theorem fine00:Fine m00:=⟨by decide,by decide,by decide⟩
theorem zMz:uY m00:=⟨λq=>rfl,λq=>rfl⟩
theorem zIq(h:uY m):∃R c,ends m=some (R,c):=⟨_,_,d3 (decide_eq_decide.mpr h)⟩
theorem tell(h:NlL l):∃M R c,Tell l M R c:=ae (wB _ .out (l.map tr12) m00 (i5 _) trivial (zAe h) (qYw l) fine00 (λq=>rfl) (λq=>⟨zMz,by decide⟩)) λM e u=>cg (zIq u.ok) λR c D=>⟨M,R,c,h,e,u,D⟩
theorem uV:∀{l:Ln}{g y:Nat},l.Pairwise (· < ·)->g∈l->l.getLast?=some y->g<=y
 | [],_,_,_,h,_=>nomatch h
 | [a],g,y,_,h,e=>by rw[List.mem_singleton.mp h];exact v6 (b5 e)
 |a::b::l,g,y,h,hg,e=>by
  rw[List.getLast?_cons_cons]at e
  obtain⟨h1,h2⟩:=List.pairwise_cons.mp h
  rcases List.mem_cons.mp hg with rfl|hg
  .exact m9 (h1 y (mK e))
  .exact uV h2 hg e
section
variable{l:Ln}{M:Mk}{R:Ln}{c:Nat}
theorem Tell.lno(h:Tell l M R c):M.lno=l.count 10:=by rw[h.re.lno,zIw];exact fJ _
theorem Tell.rows(h:Tell l M R c):(c=0/\R=M.gl/\M.gl.getLast?=some (l.count 10))\/(c≠0/\R=M.gl++[l.count 10]/\∀g∈M.gl,g<l.count 10):=by
 obtain D:=h.en;have u:=h.re.ok;unfold uY at u;unfold ends at D;replace D:=aw (decide_eq_decide.mpr u) D;obtain hR:=g0 Prod.fst (b5 D);rw[show(if M.cont≠2/\M.cont≠3/\0<M.level then 4 else M.cont)=c from(g0 Prod.snd (b5 D))]at u;rw[h.lno]at u hR;by_cases q:M.gl.getLast?=some (l.count 10)
 .exact .inl ⟨u.mpr q,(hR.symm.trans (d3 q)),q⟩
 .refine .inr ⟨λz=>q (u.mp z),hR.symm.trans (b6 q),λg hg=>fB (h.lno▸h.re.fine.up g hg) λz=>q ?_⟩;obtain⟨y,F⟩:∃y,M.gl.getLast?=some y:=⟨_,r5 h.re.fine.ne⟩
  obtain h1:=uV h.re.fine.asc hg F;obtain h2:=h.lno▸h.re.fine.up y (mK F);rw[F,eW h2 (z▸h1)]
theorem Tell.sub(h:Tell l M R c)(hg:g∈R):g∈M.gl\/g=l.count 10:=by
 rcases h.rows with⟨_,e,_⟩|⟨_,e,_⟩
 .exact .inl (e▸hg)
 .rw[e]at hg;exact(List.mem_append.mp hg).imp_right List.mem_singleton.mp
theorem Tell.mem(h:Tell l M R c)(hg:g∈R)(u:g<l.count 10):g∈M.gl:=(h.sub hg).resolve_right (n3 u)
theorem Tell.in_(h:Tell l M R c)(hg:g∈M.gl):g∈R:=by
 rcases h.rows with⟨_,e,_⟩|⟨_,e,_⟩
 .exact e▸hg
 .rw[e];exact mL _ hg
theorem Tell.last(h:Tell l M R c):R.getLast?=some (l.count 10):=by
 rcases h.rows with⟨_,e,q⟩|⟨_,e,_⟩
 .rw[e];exact q
 .rw[e,gL]
theorem Tell.asc(h:Tell l M R c):R.Pairwise (· < ·):=by
 rcases h.rows with⟨_,e,_⟩|⟨_,e,q⟩
 .rw[e];exact h.re.fine.asc
 .rw[e];exact List.pairwise_append.mpr ⟨h.re.fine.asc,oR _ _,λa u b D=>by rw[List.mem_singleton.mp D];exact q a u⟩
theorem Tell.le(h:Tell l M R c)(hg:g∈R):g<=l.count 10:=uV h.asc hg h.last
theorem Tell.head(h:Tell l M R c):∃t,R=0::t/\∃u,M.gl=0::u:=by
 refine bf h.re.pre λu D=>?_;obtain e:M.gl=0::u:=D.symm;rcases h.rows with⟨_,e2,_⟩|⟨_,e2,_⟩
 .exact⟨u,e2.trans e,u,e⟩
 .exact⟨u++[l.count 10],by rw[e2,e];rfl,u,e⟩
theorem Tell.small(h:Tell l M R c):R.length<=l.length+1:=by
 have D:∀(R:Ln)(a n:Nat),R.Pairwise (· < ·)->(∀g∈R,a<=g/\g<=n)->a<=n+1->R.length<=n+1-a:=by
  intro R;induction R with
  |nil=>intro a n _ _ _;exact v0 _
  |cons g R I =>intro a n h1 h2 h3;obtain⟨h4,h5⟩:=List.pairwise_cons.mp h1;have u:=h2 g (.head _);have:=I (g+1) n h5 (λz F=>⟨h4 z F,(h2 z (.tail _ F)).2⟩) (by simp[u]);exact mn u this
 have:=D R 0 (l.count 10) h.asc (λg hg=>⟨v0 _,h.le hg⟩) (by simp);have:l.count 10<=l.length:=pS;lia
theorem Tell.cut(h:Tell l M R c)(hg:g∈M.gl):∃M0 R0 G',Tell (dropR l g) M0 R0 c/\M0.level=M.level/\M0.cont=M.cont/\M.gl=G'++M0.gl.map (g + ·)/\R=G'++R0.map (g + ·):=by
 refine ph (qSl (h.ma) hg) λk B M0 G' hk L hc hs e1 e2 J u=>?_;obtain eB:B=(dropR l g).map tr12:=by
  rw[<- qFu jC];rcases L with⟨A,I⟩|⟨rfl,rfl⟩
  .obtain eA:(A++[10])++B=l.map tr12:=by rw[<- I,u3];rfl
   rw[<- eA,<- (by
    have:=g0 (List.count 10) eA
    rw[gP]at this
    simp_all:(A++[10]).count 10=g)]
   exact(qVk (A++[10]) B (.inr ⟨A,rfl⟩)).symm
  .rw[vD]
 subst eB;refine dn (tell (h.nl.suffix (qL l g))) λM1 R1 O t=>?_;obtain em:M1=M0:=by have:=uH (md:=.out) (m:=m00) (mo hk);rw[hs]at this;exact b5 (t.ma.symm.trans this.symm)
 subst em;refine ae (zCi e1 e2 J u t.re.fine.ne h.en) λR0 F N=>?_;have D:=t.en;rw[F]at D;cases D;exact⟨M1,_,G',t,e1,e2,u,N⟩
end
theorem qAk(h:blk c):tr12 c=120/\c≠10/\j8 c:=by rcases(eS _ _▸h:_\/_)with e|e <;> (rw[eU e];decide)
theorem vX(h:c≠10)(l:Ln)(r:Nat):dropR (c::l) (r+1)=dropR l (r+1):=g0 (dropR l) (b6 h)
theorem zCm:∀{l:Ln},10∈l->(l.map tr12).dropWhile (·≠10)=10::(dropR l 1).map tr12:=by
 intro D;induction D with
 |nil=>exactλh=>nomatch h
 |cons c l u =>
  intro h;rw[fX,v1];by_cases e:c=10
  .subst e;refine bc pi ?_;show tr12 10::l.map tr12=10::(dropR l 0).map tr12;rw[vD];rfl
  .rw[d3 (by simpa usingλz=>e ((jC c).mp z)),vX e];exact u ((List.mem_cons.mp h).resolve_left (fR e))
theorem qFg{l:Ln}(h:10∈l):10∈l.map tr12:=List.mem_map.mpr ⟨10,h,rfl⟩
theorem zPl{l:Ln}:march .out (120::l) m=march .out l m:=by rw[mout];exact ax rfl rfl
theorem m10{l:Ln}:march .out (10::l) m=march .out l m.line:=by rw[mout];exact bc pi (ax rfl rfl)
theorem m35{l:Ln}(h:10∈l):march .out (35::l) m=march .out (l.dropWhile (·≠10)) m:=by rw[mout];exact bc pi (bc pi (bc pi (bc pi (bc pi (ax rfl (ax h rfl))))))
theorem zBg:∀{l:Ln}{m:Mk},NlL l->junkE l->march .out (l.map tr12) m=march .out ((dropR l 1).map tr12) m.line:=by
 intro I;induction I with
 |nil=>exact@λq q h=>nomatch h
 |cons c l F =>
  intro m D h;unfold junkE at h;rw[v1]at h;rw[fX];by_cases u:blk c=true
  .rw[d3 u]at h;rw[(qAk u).1,zPl,vX (qAk u).2.1];exact F (D.suffix (n6 _ _)) h
  .rw[b6 u]at h;by_cases h1:c=10
   .subst h1;show march .out (10::l.map tr12) m=march .out ((dropR l 0).map tr12) m.line;rw[vD,m10]
   .obtain h2:c=35:=eX λz=>by rw[show zLx (c::l)=false from(b6 h1).trans (b6 z)]at h;exact nomatch h
    subst h2;obtain hm:=(D.suffix (n6 35 l)).mem (D.one pi);show march .out (35::l.map tr12) m=_;rw[m35 (qFg hm),zCm hm,m10,vX pi]
theorem Tell.junk1(h:Tell l M R c)(u:junkE l):1∈M.gl:=by obtain e:=(zBg h.nl u).symm.trans h.ma;refine ae (wB _ .out ((dropR l 1).map tr12) m00.line (i5 _) trivial (zAe (h.nl.suffix (qL l 1))) (qYw _) fine00.line (λq=>rfl) (λq=>⟨qQq fine00 rfl,by decide⟩)) λM1 e1 D=>?_;replace e1:=e.symm.trans e1;subst e1;exact D.pre.mem pi
theorem Tell.junk(h:Tell l M R c)(hg:g∈M.gl)(u:junkE (dropR l g)):g+1∈M.gl:=by refine dh (h.cut hg) λM0 R0 G' t q q e q=>?_;rw[e];exact iM _ (List.mem_map.mpr ⟨1,t.junk1 u,rfl⟩)
theorem Tell.rows_junk(h:Tell l M R c)(I:∀g∈R,g<l.count 10->junkE (dropR l g)):c=0/\∀r,r<l.count 10->junkE (dropR l r):=by
 have F:∀r,r<=l.count 10->r∈M.gl:=by
  intro r;induction r with
  |zero=>intro _;obtain⟨_,_,u,e⟩:=h.head;rw[e];exact .head _
  |succ r J =>intro D;exact h.junk (J (m4 D)) (I r (h.in_ (J (m4 D))) D)
 refine⟨?_,λr D=>I r (h.in_ (F r (m9 D))) D⟩;rcases h.rows with⟨e,_⟩|⟨_,_,q⟩
 .exact e
 .exact d9 (q _ (F _ (i5 _))) (fP _)
theorem qOm:∀(n:Nat){l:Ln},l.length<=n->NlL l->(∀r,r<l.count 10->junkE (dropR l r))->wJ l=false:=by
 have row:∀{l:Ln},NlL l->junkE l=true->wJ l=false\/(l.dropWhile j8=(dropR l 1).dropWhile j8):=by
  intro l;induction l with
  |nil=>intro _ h;exact nomatch h
  |cons c l F =>
   intro u h;unfold junkE at h;rw[v1]at h;by_cases D:blk c=true
   .rw[d3 D]at h;have:=F (u.suffix (n6 _ _)) h;unfold wJ at this |-;rw[v1,d3 (qAk D).2.2,vX (qAk D).2.1];exact this
   .rw[b6 D]at h;by_cases h1:c=10
    .subst h1;refine .inr ?_;rw[v1,d3 pi];show _=(dropR l 0).dropWhile _;rw[vD]
    .obtain h2:c=35:=eX λz=>by rw[show zLx (c::l)=false from(b6 h1).trans (b6 z)]at h;exact nomatch h
     subst h2;refine .inl ?_;unfold wJ;rw[v1,zX1];rfl
 intro n;induction n with
 |zero =>intro l h _ _;rw[List.length_eq_zero_iff.mp (Nat.le_zero.mp h)];rfl
 |succ n F =>
  intro l h u J;by_cases I:l=[]
  .rw[I];rfl
  .have hc:0<l.count 10:=List.count_pos_iff.mpr (u.mem I);obtain h0:=J 0 hc;rw[vD]at h0;rcases row u h0 with e|e
   .exact e
   .have:=F (l:=dropR l 1) (by
     have:=g0 List.length (qM l 1)
     rw[g8]at this
     exact mq h this (ofs_pos hc pM)) (u.suffix (qL l 1)) λr L=>by
     rw[<- kM,m7];exact J (r+1) ((zN (l:=l) (r:=1) hc)▸Nat.succ_lt_succ L)
    unfold wJ at this |-;rw[e];exact this
end Mine.Lake.L09
namespace Mine.Lake.L09
open PySem PySem.W PyProof.Rows Mine.Lake Mine.Lake.Rp Mine.Lake.Re MineTop
section
variable{x:Str}
theorem vL(n i:Nat):Re.upTo n (i:Int)=i:=by unfold Re.upTo;rw[b6 (Int.not_lt.mpr (u0 i)),oP (u0 _),dH]
theorem qNm:nlT=⟨#[10]⟩:=by decide
open StrLaws PySem.Builtin PySem.Builtin.Str in
theorem wZ(u:hi<=x.length):StrLaws.At x ⟨#[10]⟩ hi i ↔ i<hi/\x.cps[i]?=some 10 :=
 ⟨λh=>⟨h.1,at_nl.mp ⟨b7 h.1 u,h.2⟩⟩,λh=>⟨h.1,(at_nl.mpr h.2).2⟩⟩
open StrLaws PySem.Builtin PySem.Builtin.Str in
theorem qUn(x y:Str)(hi:Nat):(lastOccurrence x y 0 hi=none/\∀i,¬StrLaws.At x y hi i)\/∃i,lastOccurrence x y 0 hi=some i/\StrLaws.At x y hi i/\∀k,i<k->¬StrLaws.At x y hi k:=by
 rw[last_eq];have u:=StrLaws.last_run x y hi (fN 0 (hi+1-0)) [] none (λq h=>nomatch h) (λq h=>nomatch h) (lI ..);have F:∀i,StrLaws.At x y hi i->i∈[]++fN 0 (hi+1-0):=λi D=>List.mem_range'_1.mpr ⟨v0 _,by have:=D.1;exact ms this⟩;cases I:(forIn (fN 0 (hi+1-0)) none (lastBody x y hi)).run with
 |none=>rw[I]at u;exact .inl ⟨rfl,λi D=>u i (F i D) D⟩
 |some a=>rw[I]at u;exact .inr ⟨a,rfl,u.1,λk hk D=>u.2 k (F k D) hk D⟩
theorem qJb{A B C:Ln}(h:x.cps.toList=A++(B++C))(F:Lines A)(J:10∉B):rfindF x ((A.length+B.length:Nat):Int)+1=(A.length:Nat):=by
 have I:x.length=A.length+(B.length+C.length):=by have:=g0 List.length h;rw[h9,g8,g8]at this;exact this
 have u:A.length+B.length<=x.length:=by simp[I]
 unfold rfindF;rw[vL,show Re.upTo x.length 0=0 from vL x.length 0,bQ u,qNm];unfold jI;clear I;rcases qUn x ⟨#[10]⟩ (A.length+B.length)with⟨e,D⟩|⟨i,e,hi,D⟩
 .rw[e];rcases F with rfl|⟨A0,rfl⟩
  .rfl
  .refine d9 ((wZ u).mpr ⟨?_,?_⟩) (D A0.length)
   .rw[g8,v8];exact el
   .rw[<- aV,h,u3,dG (i5 _),gU];rfl
 .rw[e];obtain⟨h1,h2⟩:=(wZ u).mp hi;have h3:i<A.length:=Nat.lt_of_not_le λq=>(λi h1 h2 q=>J (by
  rw[<- aV,h,dG h1,iB (iQ h1 h2)]at q
  exact pT q):∀i,A.length<=i->i<A.length+B.length->x.cps[i]?≠some 10) i q h1 h2
  rcases F with rfl|⟨A0,rfl⟩
  .exact d9 h3 (dD _)
  .rw[g8,v8]at h3 |-;obtain h4:i=A0.length:=by refine eW (bO h3) (Nat.le_of_not_lt λq=>D A0.length q ((wZ u).mpr ⟨by rw[g8,v8];exact el,?_⟩));rw[<- aV,h,u3,dG (i5 _),gU];rfl
   subst h4;rfl
theorem qDb:∀(n:Nat)(S:Ln),S.length<=n->∃S1 B,S=S1++B/\Lines S1/\10∉B
 |n,[],_=>⟨[],[],rfl,.inl rfl,λh=>nomatch h⟩
 |0,_::_,h=>d9 h (bY _)
 |n+1,a::S,h=>by
  refine bi (qDb n S (r7 h)) λS1 B e h1 h2=>?_
  rcases h1 with rfl|⟨q,rfl⟩
  .by_cases u:a=10
   .exact⟨[a],B,by rw[e];rfl,.inr ⟨[],by rw[u];rfl⟩,h2⟩
   .exact⟨[],a::B,by rw[e];rfl,.inl rfl,λq=>(List.mem_cons.mp q).elim (λw=>u w.symm) h2⟩
  .exact⟨a::(q++[10]),B,by rw[e];rfl,.inr ⟨a::q,rfl⟩,h2⟩
theorem qRm:∀(n:Nat){A S C:Ln},S.length<=n->x.cps.toList=A++(S++C)->Lines A->Lines S->back x (S.count 10) ((A.length+S.length:Nat):Int)=(A.length:Nat)
 |n,A,[],C,_,h,hA,_=>rfl
 |0,_,_::_,_,h,_,_,_=>d9 h (bY _)
 |n+1,A,a::S,C,hn,h,hA,hS=>by
  obtain⟨q,D⟩:=hS.resolve_left (λq=>by cases q);rw[D]at h hn |-;refine bi (qDb q.length q (i5 _)) λS1 B e h1 h2=>?_;subst e;have u:(S1++B++[10]).length=S1.length+B.length+1:=by rw[g8,g8];rfl
  have hc:(S1++B++[10]).count 10=S1.count 10+1:=by rw[gP,gP,List.count_eq_zero.mpr h2];rfl
  obtain e1:=qJb (x:=x) (A:=A++S1) (B:=B) (C:=[10]++C) (by rw[h];simp) (by
   rcases h1 with rfl|⟨r,rfl⟩
   .rw[eF];exact hA
   .exact .inr ⟨A++r,by rw[u3]⟩) h2
  rw[hc,u];show back x (S1.count 10) (rfindF x (((A.length+(S1.length+B.length+1):Nat):Int)-1)+1)=_;rw[(by
   rw[g8];exact mu:((A.length+(S1.length+B.length+1):Nat):Int)-1=(((A++S1).length+B.length:Nat):Int)),e1,g8]
  exact qRm n (C:=B++[10]++C) (by rw[u]at hn;exact mv hn) (by rw[h];simp) hA h1
theorem zBy{q:Nat}(u:q=x.length):kF x nlT (Re.upTo x.length (p:Nat)) (min (Re.upTo x.length (q:Nat)) x.length)=dF x nlT (p:Nat):=by rw[vL,vL,u,Nat.min_self];unfold dF;rw[qKi];rfl
theorem qQg{code:Array Nat}{q:Nat}(D:q=x.length)(hs:x.length<=1000)(hp:p<=x.length)(h:u=[((p:Nat):Int)]\/u=[((p:Nat):Int),((q:Nat):Int)]):reAt code x u=qS code x.cps p x.length:=by
 obtain hx:x.cps.size=x.length:=rfl;unfold reAt;rcases h with rfl|rfl
 .rw[d3]
  .show qS code x.cps (min ((p:Nat):Int).toNat x.cps.size) (min (2 ^ 63-1:Int).toNat x.cps.size)=_;rw[dH,hx,bQ hp,dX (b7 hs pi)]
  .show(decide (-(2 ^ 63:Int)<=((p:Nat):Int))&&decide (((p:Nat):Int)<2 ^ 63)&&decide (-(2 ^ 63)<=(2 ^ 63-1:Int))&&decide ((2 ^ 63-1:Int)<2 ^ 63))=true;rw[e9 da,e9 (db (b7 hp hs))];rfl
 .rw[d3]
  .show qS code x.cps (min ((p:Nat):Int).toNat x.cps.size) (min ((q:Nat):Int).toNat x.cps.size)=_;rw[dH,dH,hx,D,bQ hp,Nat.min_self]
  .show(decide (-(2 ^ 63:Int)<=((p:Nat):Int))&&decide (((p:Nat):Int)<2 ^ 63)&&decide (-(2 ^ 63)<=((q:Nat):Int))&&decide (((q:Nat):Int)<2 ^ 63))=true;rw[e9 da,e9 (db (b7 hp hs)),e9 da,e9 (db (b7 (v6 D) hs))];rfl
end
end Mine.Lake.L09
namespace Mine.Lake.L09
open PySem PySem.W Mine.Lake Mine.Lake.Rp Mine.Lake.Re MineTop
section
variable{x:Str}{b p:Nat}{l:Ln}{c:Nat}
theorem xQ(hs:x.length<=1000)(h:Re.At x.cps b p (c::l)):signAt x (p:Nat)=some ⟨#[c]⟩:=by
 refine bg h.cons λh1 h2 h3=>?_;obtain hp:p<x.length:=g9 h1 h.sz;unfold signAt;rw[d3 (kS (by simp) (mr hs hp)),jH hp,n7,(by
  rw[fZ,eY hp]at h2
  rw[eY hp];exact g0 some h2:x.cps[p]?=some c)];rfl
theorem qZu{code:Array Nat}(hs:x.length<=1000)(hp:p<=x.length)(u:b<=x.length):reAt code x [((p:Nat):Int),((b:Nat):Int)]=qS code x.cps p b:=by
 obtain hx:x.cps.size=x.length:=rfl;unfold reAt;rw[d3]
 .show qS code x.cps (min ((p:Nat):Int).toNat x.cps.size) (min ((b:Nat):Int).toNat x.cps.size)=_;simp only[dH,dH,hx,bQ hp,bQ u]
 .show(decide (-(2 ^ 63:Int)<=((p:Nat):Int))&&decide (((p:Nat):Int)<2 ^ 63)&&decide (-(2 ^ 63)<=((b:Nat):Int))&&decide (((b:Nat):Int)<2 ^ 63))=true;rw[e9 da,e9 (db (b7 hp hs)),e9 da,e9 (db (b7 u hs))];rfl
theorem zJi(h:Re.At x.cps b p (c::l)):x.cps[p]?=some c:=by refine bg h.cons λh1 h2 h3=>?_;obtain hp:p<x.cps.size:=g9 h1 h.sz;rw[fZ,eY hp]at h2;refine(eY hp).trans ?_;exact g0 some h2
theorem yU(hm:10∈l):∃r,l=l.takeWhile (· != 10)++10::r/\l.dropWhile (· != 10)=10::r:=by obtain⟨r,u⟩:=zKt hm;exact⟨r,by have:=@u9 _ (· != 10) l;rw[u]at this;exact this.symm,u⟩
open PySem.Builtin PySem.Builtin.Str in
theorem qRa(h:Re.At x.cps b p l)(hm:10∈l):kF x nlT (Re.upTo x.length (p:Nat)) (min (Re.upTo x.length (b:Nat)) x.length)=((p+(l.takeWhile (· != 10)).length:Nat):Int):=by
 refine ae (yU hm) λr e1 e2=>?_;have I:=(h.spn (f:=(· != 10))).2;rw[e2]at I;have J:=zJi I;have u:=I.cons.1;have F:b<=x.length:=h.sz;obtain hno:∀j,p<=j->j<p+(l.takeWhile (· != 10)).length->x.cps[j]?≠some 10:=λj h1 h2 z=>by have:=h.run (f:=(· != 10)) (j-p) (iQ h1 h2);rw[dT h1,fZ,z]at this;cases this
 rw[vL,vL,bQ F,qNm];unfold kF;rw[StrLaws.occ_eq];obtain hpq:p<=p+(l.takeWhile (· != 10)).length:=n5 _ _;generalize p+(l.takeWhile (· != 10)).length=q at J u hno hpq |-;have D:q∈fN p (b+1-p):=List.mem_range'_1.mpr ⟨hpq,er u⟩;rcases StrLaws.occ_first x ⟨#[10]⟩ b 1 (i5 _) (fN p (b+1-p)) p (λi hi=>(List.mem_range'_1.mp hi).1)with⟨_,L⟩|⟨pre,a,T,e,O,S,L⟩
 .exact d9 ((wZ F).mpr ⟨u,J⟩) (L q D)
 .have N:a=q:=by
   rcases Nat.lt_trichotomy a q with c|c|c
   .exact d9 (((wZ F).mp S).2) (hno a ((List.mem_range'_1.mp (by rw[e];exact iM _ (.head _))).1) c)
   .exact c
   .exfalso;refine L q ?_ ((wZ F).mpr ⟨u,J⟩);rw[e]at D;rcases List.mem_append.mp D with m|m
    .exact m
    .rcases List.mem_cons.mp m with m|m
     .lia
     .have:=(List.pairwise_append.mp (by rw[<- e];exact lI ..)).2.1;have:=(List.pairwise_cons.mp this).1 q m;lia
  clear D hpq hno F u J I h hm;subst N;generalize(forIn (fN p (b+1-p)) ((#[]:Array Nat),p) (StrLaws.occBody x ⟨#[10]⟩ b 1)).run.fst=arr at O;have h5:arr.toList[0]?=some a:=by rw[aV];exact O
  cases hL:arr.toList with
  |nil=>rw[hL]at h5;cases h5
  |cons b t=>rw[hL]at h5;subst h5;rfl
theorem qKk(h:Re.At x.cps x.length p l)(hm:10∈l):dF x nlT (p:Nat)=((p+(l.takeWhile (· != 10)).length:Nat):Int):=by rw[<- zBy (q:=x.length) rfl];exact qRa h hm
theorem qIr(hi:i<=x.length):zH x (i:Nat) ((i+t:Nat):Int)=⟨((x.cps.toList.drop i).take t).toArray⟩:=by unfold zH;rw[qKu x.cps.toList (by rw[h9];exact hi)]
theorem yP(h:x.cps.toList.drop p=l)(hp:p<=x.length):Re.At x.cps x.length p l:=⟨by
 unfold qEf
 rw[h,eI]
 rw[<- h,t3,h9];exact i5 _,hp,i5 _⟩
theorem zJh{A B C:Ln}(h:x.cps.toList=A++(B++C)):Re.At x.cps (A.length+B.length) A.length B:=⟨by
 unfold qEf
 simp only[h,nJ,w7,nK],n5 _ _,by
 have:=g0 List.length h
 simp only[h9,g8,g8]at this
 simp[this]⟩
end
structure Z where
 stack:Ln
 brk:List (Nat×Nat)
 last:Str
noncomputable def b3(c:Nat):Bool:=c==32||c==9||c==10
noncomputable def opn(c:Nat):Bool:=c==40||c==91||c==123
noncomputable def cls(c:Nat):Bool:=c==41||c==93||c==125
def xB(w:Ln)(z:Str):Str:=w.foldl (λz c=>if b3 c then z else⟨#[c]⟩) z
def kOf(c:Nat)(r:Ln):Nat:=if opn c=true\/cls c then 1 else if c=34\/c=39 then strN (c::r)else if c=35 then(r.takeWhile (· != 10)).length+2 else 2
def zOf(p c:Nat)(r:Ln)(z:Z):Z :=
 if opn c then⟨z.stack++[p],z.brk++[(p,(z.stack++[p]).length)],⟨#[c]⟩⟩
 else if cls c then⟨z.stack.dropLast,z.brk++[(p+1,z.stack.dropLast.length)],⟨#[c]⟩⟩
 else if c=34\/c=39 then⟨z.stack,z.brk++[(p,z.stack.length+1)]++[(p+strN (c::r),z.stack.length)],⟨#[c]⟩⟩
 else if c=35 then⟨z.stack,z.brk++[(p,z.stack.length+1)]++[(p+((r.takeWhile (· != 10)).length+2),z.stack.length)],z.last⟩
 else⟨z.stack,z.brk,match r with| []=>z.last|d::_=>if d=10 then z.last else⟨#[92,d]⟩⟩
def mm:Nat->Nat->Ln->Z->Z
 |0,_,_,z=>z
 |n+1,p,l,z=>match l.dropWhile och with
  | []=>{ z with last:=xB (l.takeWhile och) z.last }
  |c::r=>mm n (p+(l.takeWhile och).length+kOf c r) ((c::r).drop (kOf c r)) (zOf (p+(l.takeWhile och).length) c r { z with last:=xB (l.takeWhile och) z.last })
noncomputable def upS(a:Nat)(l:Ln):List Int:=l.map λi=>((a+i:Nat):Int)
noncomputable def upB(a:Nat)(l:List (Nat×Nat)):List (Int×Int):=l.map λb=>(((a+b.1:Nat):Int),((b.2:Nat):Int))
def upZ(a p:Nat)(z:Z):S2:=⟨((a+p:Nat):Int),upS a z.stack,upB a z.brk,z.last⟩
theorem qIe:upS a (l++[p])=upS a l++[((a+p:Nat):Int)]:=fD ..
theorem vM:upB a (l++[(p,k)])=upB a l++[(((a+p:Nat):Int),((k:Nat):Int))]:=fD ..
theorem qWt:upS a l.dropLast=(upS a l).dropLast:=(List.map_dropLast ..)
theorem qQo:ln (upS a l)=((l.length:Nat):Int):=by unfold ln upS;rw[m8]
theorem zKx:∀c,c<128->m6 " \t\n" ⟨#[c]⟩=b3 c:=pw
theorem zBe:∀c,c<128->m6 "([{" ⟨#[c]⟩=opn c/\m6 ")]}" ⟨#[c]⟩=cls c:=pw
theorem special:∀c,c<128->och c=false->opn c=true\/cls c=true\/c=34\/c=39\/c=35\/c=92:=pw
theorem one_eq:((⟨#[c]⟩:Str)=⟨#[d]⟩) ↔ c=d:=⟨λh=>by injection h with h;injection h with h;injection h,λh=>by rw[h]⟩
section
variable{s:S2}{ch:Str}{q:Int}{x:Str}(hg:signAt x s.p=some ch)
include hg
theorem tb1(h:m6 "([{" ch):xR x q s=some { p:=s.p+1,stack:=s.stack++[s.p],brk:=s.brk++[(s.p,ln (s.stack++[s.p]))],last:=ch }:=by unfold xR;simp only[hg,n7,d3 h]
variable(h1:¬m6 "([{" ch=true)
include h1
theorem tb2(h:m6 ")]}" ch):xR x q s=some { p:=s.p+1,stack:=s.stack.dropLast,brk:=s.brk++[(s.p+1,ln s.stack.dropLast)],last:=ch }:=by unfold xR;simp only[hg,n7];exact bc h1 (ax h rfl)
variable(h2:¬m6 ")]}" ch=true)
include h2
theorem tb3(h:ch="\""\/ch="'")(u:reAt stringC x [s.p,q]=some (some m)):xR x q s=some { p:=(m.2:Nat),stack:=s.stack,brk:=s.brk++[(s.p,ln s.stack+1)]++[(((m.2:Nat):Int),ln s.stack)],last:=ch }:=by unfold xR;rw[hg,n7,b6 h1,b6 h2,d3 h,u];rfl
variable(h3:¬(ch="\""\/ch="'"))
include h3
theorem tb4(h:ch="#")(u:kF x nlT (Re.upTo x.length s.p) (min (Re.upTo x.length q) x.length)=(r:Nat)):xR x q s=some { p:=((r+1:Nat):Int),stack:=s.stack,brk:=s.brk++[(s.p,ln s.stack+1)]++[(((r+1:Nat):Int),ln s.stack)],last:=s.last }:=by unfold xR;rw[hg,n7,b6 h1,b6 h2,b6 h3,d3 h,u];exact d3 (Int.natCast_pos.mpr (eQ r))
theorem tb5(h4:¬ch="#")(h:ch="\\"/\s.p+1<q)(hd:signAt x (s.p+1)=some d):xR x q s=some { s with p:=s.p+1+1,last:=if d=nlT then s.last else ch++d }:=by unfold xR;rw[hg,n7,b6 h1,b6 h2,b6 h3,b6 h4,d3 h,hd];rfl
end
section
variable{x:Str}{a b p c n:Nat}{l r:Ln}{z:Z}
theorem qIo:0<strN (c::r):=by
 show 0<(if r.take 2=[c,c]then triN c false (r.drop 2)+3 else sngN c false r+1);by_cases h:r.take 2=[c,c]
 .rw[d3 h];exact eQ _
 .rw[b6 h];exact eQ _
theorem qHk:0<kOf c r:=by
 unfold kOf;by_cases h1:opn c=true\/cls c=true
 .rw[d3 h1];exact pM
 rw[b6 h1];by_cases h2:c=34\/c=39
 .rw[d3 h2];exact qIo
 rw[b6 h2];by_cases h3:c=35
 .rw[d3 h3];exact eQ _
 rw[b6 h3];decide
theorem zEh{q:Nat}(hs:x.length<=1000)(hc:∀c∈l,c<128)(last:Str)(h:Re.At x.cps q p l):∀(k fuel:Nat),k<fuel->k<=l.length->∃i,yV x (p:Nat) fuel (((p+k:Nat):Int)-1)=some i/\(if i≥((p:Nat):Int)then signAt x i else some last)=some (xB (l.take k) last):=by
  intro I;induction I with
  |zero =>
   exact fun
   |fuel+1,_,_=>⟨((p+0:Nat):Int)-1,b6 (by simp +arith),b6 (by simp +arith)⟩
  |succ k F =>
   exact fun
   |fuel+1,hk,hp=>by
    obtain hd:=At.skip k h (m4 hp);rw[(dM (l:=l) (i:=k) hp)]at hd;have D:=xQ hs hd;obtain e:((p+(k+1):Nat):Int)-1=((p+k:Nat):Int):=Int.sub_eq_iff_eq_add.mpr rfl;obtain hge:((p+k:Nat):Int)≥((p:Nat):Int):=Int.le.intro _ rfl;rw[e,(by
      rw[((List.take_append_getElem hp).symm)];unfold xB;rw[List.foldl_append];rfl:xB (l.take (k+1)) last=if b3 l[k]then xB (l.take k) last else⟨#[l[k]]⟩)]
    refine ae (F fuel (dZ hk) (m4 hp)) λi h1 h2=>?_;show∃i,(if((p+k:Nat):Int)≥((p:Nat):Int)then(signAt x ((p+k:Nat):Int)).bind λc=>if m6 " \t\n" c=true then yV x (p:Nat) fuel (((p+k:Nat):Int)-1)else some ((p+k:Nat):Int)else some ((p+k:Nat):Int))=some i/\_;rw[d3 hge,D,n7,zKx _ (hc _ (iP hp))];by_cases u:b3 l[k]=true
    · rw[d3 u,d3 u];exact⟨i,h1,h2⟩
    · rw[b6 u,b6 u];exact⟨_,rfl,by rw[d3 hge];exact D⟩theorem tri_le:∀(l:Ln)(e:Bool),triN c e l<=l.length
  | [],_=>i5 _
  |_::l,true=>n9 (tri_le l false)
  |d::l,false=>by
    rw[qEi];by_cases h:d=c
    · rw[d3 h]
      by_cases h2:l.take 2=[c,c]
      · rw[d3 h2]
        have:=g0 List.length h2;rw[w9]at this;rw[g5];exact n9 (dk (this.trans rfl))
      · rw[b6 h2];exact n9 (tri_le l false)
    · rw[b6 h]
      by_cases h2:d=92/\l=[]
      · rw[d3 h2];exact v0 _
      · rw[b6 h2];exact n9 (tri_le l _)
theorem qMi:∀(l:Ln)(e:Bool),sngN c e l<=l.length
 | [],_=>i5 _
 |_::l,true=>n9 (qMi l false)
 |d::l,false=>by
  rw[qEt]
  by_cases h:d=c
  .rw[d3 h];exact n9 (v0 _)
  .rw[b6 h]
   by_cases h2:d=10\/(d=92/\l=[])
   .rw[d3 h2];exact v0 _
   .rw[b6 h2];exact n9 (qMi l _)
theorem qGu:strN (c::r)<=r.length+1:=by
 show(if r.take 2=[c,c]then triN c false (r.drop 2)+3 else sngN c false r+1)<=_;by_cases h:r.take 2=[c,c]
 .rw[d3 h];obtain h1:=tri_le (c:=c) (r.drop 2) false;obtain h2:=g0 List.length h;rw[w9]at h2;rw[t3]at h1;exact mw h1 h2 rfl
 .rw[b6 h];exact n9 (qMi r false)
theorem zEg(hs:x.length<300)(h:Re.At x.cps b (a+p) (c::r))(T:NlL (c::r))(X:c<128)(Y:och c=false):xR x (b:Nat) (upZ a p z)=some (upZ a (p+kOf c r) (zOf p c r z))/\kOf c r<=r.length+1:=by
 have J:x.length<=1000:=bk hs;obtain hp:a+p<=x.length:=b7 h.le h.sz;have hg:signAt x (upZ a p z).p=some ⟨#[c]⟩:=xQ J h;obtain⟨o1,o2⟩:=zBe c X;obtain hsp:=special c X Y;by_cases D:opn c=true
 .rw[tb1 hg (o1.trans D)];refine⟨g0 some ?_,?_⟩
  .unfold zOf kOf;rw[d3 D,d3 (.inl D)];unfold upZ;rw[qIe,vM,<- qQo (a:=a),qIe];rfl
  .unfold kOf;rw[d3 (.inl D)];exact n9 (v0 _)
 obtain n1:¬m6 "([{" ⟨#[c]⟩=true:=λz=>D (o1.symm.trans z);by_cases F:cls c=true
 .rw[tb2 hg n1 (o2.trans F)];refine⟨g0 some ?_,?_⟩
  .unfold zOf kOf;rw[b6 D,d3 F,d3 (.inr F)];unfold upZ;rw[vM,<- qQo (a:=a),qWt];rfl
  .unfold kOf;rw[d3 (.inr F)];exact n9 (v0 _)
 have O:¬m6 ")]}" ⟨#[c]⟩=true:=λz=>F (o2.symm.trans z);obtain n12:¬(opn c=true\/cls c=true):=λz=>z.elim D F;by_cases u:c=34\/c=39
 .have Z:(⟨#[c]⟩:Str)="\""\/(⟨#[c]⟩:Str)="'":= u.imp (λz=>by rw[z];rfl) λz=>by rw[z];rfl
  rw[tb3 hg n1 O Z ((qZu J hp h.sz).trans (qXp h u (i9 h.sz hs)))];refine⟨g0 some ?_,?_⟩
  .unfold zOf kOf;rw[b6 D,b6 F,d3 u,b6 n12,d3 u];unfold upZ;rw[vM,vM,<- i7];have:=qQo (a:=a) (l:=z.stack);simp only[this];rfl
  .unfold kOf;rw[b6 n12,d3 u];exact qGu
 have U:¬((⟨#[c]⟩:Str)="\""\/(⟨#[c]⟩:Str)="'"):=λz=>u (z.imp one_eq.mp one_eq.mp);have N:c≠10:=by rintro rfl;rcases hsp with z|z|z|z|z|z <;> cases z
 have L:=T.one N;have hm:=(T.suffix (n6 c r)).mem L;by_cases I:c=35
 .obtain hf:=qRa h (.tail _ hm);rw[cC,d3 (by simpa using N),g5]at hf;rw[tb4 hg n1 O U (by rw[I];rfl) hf];refine⟨g0 some ?_,?_⟩
  .unfold zOf kOf;rw[b6 D,b6 F,b6 u,d3 I,b6 n12,b6 u,d3 I];unfold upZ;rw[vM,vM];have:=qQo (a:=a) (l:=z.stack);simp only[this,(by simp +arith:a+p+((r.takeWhile (· != 10)).length+1)+1=a+(p+((r.takeWhile (· != 10)).length+2)))];rfl
  .unfold kOf;rw[b6 n12,b6 u,d3 I];obtain⟨t,e1,_⟩:=yU hm;have:=g0 List.length e1;rw[g8,g5]at this;exact mx this
 have V:c=92:=by
  rcases hsp with z|z|z|z|z|z
  .exact d9 z D
  .exact d9 z F
  .exact d9 (.inl z) u
  .exact d9 (.inr z) u
  .exact d9 z I
  .exact z
 refine cg (eT L) λd t S=>?_;subst S;obtain h2:=h.cons.2.2;rw[tb5 hg n1 O U (λz=>I (one_eq.mp z)) (⟨by rw[V];rfl,Int.ofNat_lt.mpr h2.cons.1⟩) (xQ J h2)];refine⟨g0 some ?_,?_⟩
 .unfold zOf kOf;rw[b6 D,b6 F,b6 u,b6 I,b6 n12,b6 u,b6 I];unfold upZ;obtain e:(if(⟨#[d]⟩:Str)=nlT then z.last else⟨#[c]⟩++⟨#[d]⟩)=if d=10 then z.last else⟨#[92,d]⟩:=by
   by_cases hd:d=10
   .rw[d3 hd,d3 (by rw[hd];rfl)]
   .rw[b6 hd,qNm,b6 λz=>hd (one_eq.mp z),V];rfl
  simp only[e];rfl
 .unfold kOf;rw[b6 n12,b6 u,b6 I];exact n9 (n9 (v0 _))
theorem qJl(h:l.dropWhile och=d::r):och d=false:=vW h
structure Fit(p:Nat)(z:Z):Prop where
 st:z.stack.length<=p
 br:z.brk.length<=2*p+1
 lt:∀s∈z.stack,s<p
theorem Fit.mono{q:Nat}(h:Fit p z)(u:p<=q):Fit q { z with last:=s }:=⟨b7 h.st u,b7 h.br (my u),λs hs=>g9 (h.lt s hs) u⟩
theorem Fit.step(h:Fit p z):Fit (p+kOf c r) (zOf p c r z):=by
 have hk:=qHk (c:=c) (r:=r);have h1:=h.st;have h2:=h.br;have h3:∀s∈z.stack,s<p+kOf c r:=λs hs=>g9 (h.lt s hs) (n5 _ _);unfold zOf;by_cases u:opn c=true
 .rw[d3 u];exact⟨by rw[g8,v8];exact u2 h1 hk,by rw[g8,v8];exact m4 (df hk h2),λs hs=>(List.mem_append.mp hs).elim (h3 s) λz=>by rw[List.mem_singleton.mp z];exact w8 hk⟩
 rw[b6 u];by_cases F:cls c=true
 .rw[d3 F];exact⟨by rw[iI];exact mz h1,by rw[g8,v8];exact m4 (df hk h2),λs hs=>h3 s (mM _ hs)⟩
 rw[b6 F];by_cases D:c=34\/c=39
 .rw[d3 D];exact⟨b7 h1 (n5 _ _),by rw[g8,g8,v8,v8];exact df hk h2,h3⟩
 rw[b6 D];by_cases I:c=35
 .rw[d3 I];exact⟨b7 h1 (n5 _ _),by rw[g8,g8,v8,v8];exact df hk h2,h3⟩
 rw[b6 I];exact⟨b7 h1 (n5 _ _),b7 h2 (by simp +arith),h3⟩
theorem zAk(h:l.dropWhile och=[]):mm (n+1) p l z={ z with last:=xB (l.takeWhile och) z.last }:=by show(match l.dropWhile och with| []=>_|c::r=>_)=_;rw[h]
theorem qHf(h:l.dropWhile och=c::r):mm (n+1) p l z=mm n (p+(l.takeWhile och).length+kOf c r) ((c::r).drop (kOf c r)) (zOf (p+(l.takeWhile och).length) c r { z with last:=xB (l.takeWhile och) z.last }):=by show(match l.dropWhile och with| []=>_|c::r=>_)=_;rw[h]
theorem zNa(l:Ln):(l.takeWhile och).length+(l.dropWhile och).length=l.length:=by have:=g0 List.length (@u9 _ och l);rw[g8]at this;exact this
theorem zHf(hs:x.length<300):∀(n p:Nat)(l:Ln)(z:Z),l.length<n->n<=1000->Re.At x.cps b (a+p) l->NlL l->(∀d∈l,d<128)->Fit p z ->
    ∃e,wC x (b:Nat) n (upZ a p z)=some (upZ a e (mm n p l z))/\Fit (p+l.length) (mm n p l z):=by
  intro Y;induction Y with
  |zero=>exactλq q q h q q q q q=>d9 h (dD _)
  |succ n X =>
   exact fun
   |p,[],z,_,_,h,_,_,hF=>by refine⟨p,?_,hF⟩;show(if((a+p:Nat):Int)<((b:Nat):Int)then _ else some (upZ a p z))=_;refine bc (by rw[h.nil];exact oG _) ?_;rfl
   |p,d::l,z,hl,hn,h,hnl,h7,hF=>by
    have L:x.length<=1000:=bk hs;have hp:a+p<=x.length:=b7 h.le h.sz;have u:=h.len;obtain hst:¬((upZ a p z).stack.length>1000\/(upZ a p z).brk.length>1000):=by obtain h1:(upS a z.stack).length=z.stack.length:=m8 ..;have h2:(upB a z.brk).length=z.brk.length:=m8 ..;have h5:=h.sz;have T:x.cps.size=x.length:=rfl;show¬((upS a z.stack).length>1000\/(upB a z.brk).length>1000);rw[h1,h2];exact na hs hp hF.st hF.br
    obtain hchew:reAt chewC x [(upZ a p z).p,((b:Nat):Int)]=_:=(qZu L hp h.sz).trans (zIz h (by have:=h.sz;have T:x.cps.size=x.length:=rfl;exact nc hs hl hn hp u));obtain hw:=zNa (d::l);have h1:=(h.spn (f:=och)).2;have hd:∀r c,(d::l).dropWhile och=c::r->∃e,((xR x (b:Nat) (upZ a (p+((d::l).takeWhile och).length) { z with last:=xB ((d::l).takeWhile och) z.last })).map λs=>(false,s)).bind (λr=>if r.1 then some r.2 else wC x (b:Nat) n r.2)=some (upZ a e (mm (n+1) p (d::l) z))/\Fit (p+(d::l).length) (mm (n+1) p (d::l) z):=by
      intro r c hc;rw[hc,i7]at h1;obtain hsf:c::r <:+ d::l:=hc▸eK _;refine bo (zEg (z:={ z with last:=xB ((d::l).takeWhile och) z.last }) hs h1 (hnl.suffix hsf) (h7 c (hsf.mem (.head _))) (qJl hc)) λU I=>?_;have h3:=At.skip (kOf c r) h1 I;rw[hc,g5]at hw;have D:((c::r).drop (kOf c r)).length=r.length+1-kOf c r:=by rw[t3,g5]
      have F:(c::r).drop (kOf c r) <:+ d::l:=(bD _ _).trans hsf;refine ae (X (p+((d::l).takeWhile och).length+kOf c r) ((c::r).drop (kOf c r)) (zOf (p+((d::l).takeWhile och).length) c r { z with last:=xB ((d::l).takeWhile och) z.last }) (nd hl hw (qHk (c:=c) (r:=r)) D) (m9 hn)
        (by rw[<- i7,<- i7];rw[<- i7]at h3;exact h3) (hnl.suffix F) (λy V=>h7 y (F.mem V)) (hF.mono (n5 _ _)).step) λe e1 e2=>⟨e,?_,?_⟩
      · rw[U,qHf hc];exact e1
      · rw[qHf hc]
        exact⟨b7 e2.st (di hw I D),b7 e2.br (nf hw I D),λs hs=>g9 (e2.lt s hs) (di hw I D)⟩
    show∃e,(if((a+p:Nat):Int)<((b:Nat):Int)then(qIf x (b:Nat) (upZ a p z)).bind λr=>if r.1=true then some r.2 else wC x (b:Nat) n r.2 else some (upZ a p z))=_/\_;rw[d3 (Int.ofNat_lt.mpr h.cons.1)];unfold qIf;rw[b6 hst,hchew,n7];by_cases J:((d::l).takeWhile och).length=0
    · rw[d3 J]
      rw[J,fJ]at hw;refine cg (List.exists_cons_of_length_eq_add_one hw) λc r hc=>?_;have:=hd r c hc;rw[(by rw[(List.length_eq_zero_iff.mp J)];rfl:upZ a (p+((d::l).takeWhile och).length) { z with last:=xB ((d::l).takeWhile och) z.last }=upZ a p z)]at this;exact this
    · rw[b6 J]
      refine ae (zEh L h7 z.last h ((d::l).takeWhile och).length 1000 (by have:=h.sz;exact ng hs u hw rfl this) (qBz _)) λi i1 i2=>?_;rw[(by
        have:=@nK _ ((d::l).takeWhile och) ((d::l).dropWhile och)
        rw[u9]at this;exact this:(d::l).take ((d::l).takeWhile och).length=(d::l).takeWhile och)]at i2
      show∃e,(((yV x (upZ a p z).p 1000 (((a+p+((d::l).takeWhile och).length:Nat):Int)-1)).bind λi=>(if i≥(upZ a p z).p then signAt x i else some (upZ a p z).last).bind λl'=>if((a+p+((d::l).takeWhile och).length:Nat):Int)≥((b:Nat):Int)then some (true,({ p:=((a+p+((d::l).takeWhile och).length:Nat):Int),stack:=(upZ a p z).stack,brk:=(upZ a p z).brk,last:=l' }:S2))else(xR x (b:Nat) { p:=((a+p+((d::l).takeWhile och).length:Nat):Int),stack:=(upZ a p z).stack,brk:=(upZ a p z).brk,last:=l' }).map λs=>(false,s)).bind λr=>if r.1=true then some r.2 else wC x (b:Nat) n r.2)=_/\_;have S:yV x (upZ a p z).p 1000 (((a+p+((d::l).takeWhile och).length:Nat):Int)-1)=some i:=i1;have N:(if i≥(upZ a p z).p then signAt x i else some (upZ a p z).last)=some (xB ((d::l).takeWhile och) z.last):=i2;rw[S,n7,N,n7];cases hc:(d::l).dropWhile och with
      |nil =>rw[hc]at hw;have O:((d::l).takeWhile och).length=(d::l).length:=hw;rw[d3 (by rw[O];exact Int.ofNat_le.mpr (v6 u.symm)),zAk hc];refine⟨p+((d::l).takeWhile och).length,?_,hF.mono (n5 _ _)⟩;unfold upZ;rw[<- i7];rfl
      |cons c r =>rw[hc,g5]at hw;rw[b6 (by rw[Int.not_le,Int.ofNat_lt];exact nh u hw)];have:=hd r c hc;unfold upZ at this |-;rw[<- i7]at this;exact this
theorem qQf(hs:x.length<300)(h:Re.At x.cps b a l)(I:NlL l)(D:∀d∈l,d<128):∃e,readF x (a:Nat) (b:Nat)=some ⟨(a:Nat),(b:Nat),upZ a e (mm 1000 0 l ⟨[],[(0,0)],""⟩)⟩/\∀s∈(mm 1000 0 l ⟨[],[(0,0)],""⟩).stack,s<l.length:=by
 have u:b<300:=i9 h.sz hs;obtain hlen:=h.len;refine ae (zHf hs 1000 0 l ⟨[],[(0,0)],""⟩ (i9 (bq hlen) (bj u)) (i5 _) h I D ⟨i5 _,i5 _,λq z=>nomatch z⟩) λe e1 e2=>?_;refine⟨e,?_,λs hs=>by have:=e2.lt s hs;rwa[fJ]at this⟩;unfold readF;have F:wC x (b:Nat) 1000 ⟨((a:Nat):Int),[],[(((a:Nat):Int),0)],""⟩=some (upZ a e (mm 1000 0 l ⟨[],[(0,0)],""⟩)):=e1;rw[F];rw[(by
  refine d3 ⟨?_,?_⟩
  .show(upS a _).length<=1000
   unfold upS
   rw[m8];exact ni u hlen e2.st
  .show(upB a _).length<=1000
   unfold upB
   rw[m8];exact nj u hlen e2.br:zNt (some (upZ a e (mm 1000 0 l ⟨[],[(0,0)],""⟩)))=some (upZ a e (mm 1000 0 l ⟨[],[(0,0)],""⟩)))];rfl
end
theorem zMl(h:n+k<=1000):Builtin.Range.small (n:Nat) ((n+k:Nat):Int) 1/\(j5 (n:Nat) ((n+k:Nat):Int) 1).toNat=k:=by
 refine⟨?_,?_⟩
 .obtain F:∀i:Int,0<=i->i<=2000->mU i=true:=λi h1 h2=>by unfold mU;rw[i6];exact⟨e9 (iK pi h1),e9 (lA h2 pi)⟩
  unfold Builtin.Range.small;rw[(by
   refine ax pi ?_
   split
   .rw[Int.ediv_one];simp +arith
   .lia:j5 (n:Nat) ((n+k:Nat):Int) 1=k),F _ (by simp) (nk h),F _ (Int.NonNeg.mk (_+_+0)) (Int.ofNat_le.mpr (bj h)),F 1 (by simp) (by simp),F k (by simp) (nm h),d3 pi,F _ (nn) (np h),Bool.or_true];rfl
 .unfold j5;rw[d3 pi];split
  .rw[Int.ediv_one];lia
  .have:k=0:=by lia
   rw[this];rfl
def lastG(l R:Ln):Nat->Option Nat
 |0=>none
 |i+1=>if junkE (dropR l (R.getD i 0))then lastG l R i else some i
theorem kQ:∀{i j:Nat},lastG l R i=some j->j<i/\junkE (dropR l (R.getD j 0))=false:=by
 intro D;induction D with
 |zero=>exact@λz h=>nomatch h
 |succ i u =>
  intro j h;obtain h:(if junkE (dropR l (R.getD i 0))then lastG l R i else some i)=some j:=h;by_cases q:junkE (dropR l (R.getD i 0))=true
  .obtain h:=aw q h;exact⟨dU (u h).1,(u h).2⟩
  .replace h:=ao q h;subst h;exact⟨s9 _,(gF _).mp q⟩
theorem qNp:∀{i:Nat},lastG l R i=none->∀j,j<i->junkE (dropR l (R.getD j 0)):=by
 intro F;induction F with
 |zero=>exactλz j h=>d9 h (dD _)
 |succ i u =>
  intro h j D;by_cases q:junkE (dropR l (R.getD i 0))=true
  .obtain h:=aw q h;by_cases e:j=i
   .rw[e];exact q
   .exact u h j (nq D e)
  .replace h:=ao q h;cases h
section
variable{x:Str}{l:Ln}{M:Mk}{R:Ln}{c:Nat}
theorem wF(h:i<R.length):R.getD i 0∈R:=by rw[r8,u8 h];exact iP h
theorem qAi(h:i<R.length):R[i]?=some (R.getD i 0):=by rw[r8,u8 h];rfl
theorem Tell.lt(h:Tell l M R c)(u:i<j)(D:j<R.length):R.getD i 0<R.getD j 0:=by have:=List.pairwise_iff_getElem.mp h.asc i j (mT u D) D u;simp only[r8,r8,u8 D,u8 (mT u D)];exact this
theorem yI(u:x.cps.toList=l):ofs l r<=x.length/\x.cps.toList.drop (ofs l r)=dropR l r:=by refine⟨?_,by rw[u];exact qCx l r⟩;have:=qCw l r;rw[<- u,h9]at this;rw[<- u];exact this
theorem zEx{q:Int}(u:¬p=0)(D:R[i]?=some a)(F:R[i+1]?=some b)(hs:Builtin.Range.small (a:Nat) (b:Nat) 1):stmtF x R (n+1) (i+1) p q=(reAt junkC x [back x (j5 (a:Nat) (b:Nat) 1).toNat p]).bind λr=>match r with
    |some _=>stmtF x R n i (back x (j5 (a:Nat) (b:Nat) 1).toNat p) p
    |none=>some (i+1,back x (j5 (a:Nat) (b:Nat) 1).toNat p,p):=by
 show(if p=0 then none else(R[i]?).bind λa=>(R[i+1]?).bind λb=>if Builtin.Range.small (a:Nat) (b:Nat) 1=true then
   (reAt junkC x [back x (j5 (a:Nat) (b:Nat) 1).toNat p]).bind λr=>match r with
    |some _=>stmtF x R n i (back x (j5 (a:Nat) (b:Nat) 1).toNat p) p
    |none=>some (i+1,back x (j5 (a:Nat) (b:Nat) 1).toNat p,p)
  else none)=_
 rw[b6 u,D,n7,F,n7,d3 hs]
theorem zEw(N:x.cps.toList=l)(hs:x.length<300)(h:Tell l M R c):∀(i n:Nat)(q:Int),i<R.length->i<n ->
    (∀j,lastG l R i=some j->stmtF x R n i (ofs l (R.getD i 0):Nat) q=some (j+1,((ofs l (R.getD j 0):Nat):Int),((ofs l (R.getD (j+1) 0):Nat):Int)))/\(lastG l R i=none->∃X,stmtF x R n i (ofs l (R.getD i 0):Nat) q=some (0,((ofs l (R.getD 0 0):Nat):Int),X)):=by
  intro V;induction V with
  |zero =>
   exact fun
   |n+1,q,_,_=>⟨λj z=>(nomatch z),λw=>⟨q,rfl⟩⟩
  |succ i U =>
   exact fun
   |0,_,_,h=>d9 h (dD _)
   |n+1,q,hi,hn=>by
    have L:=fO hi;have u:=h.lt (s9 i) hi;obtain hb:=h.le (wF hi);obtain ha:=qAi L;obtain hb':=qAi hi;obtain⟨F,I⟩:=U n (ofs l (R.getD (i+1) 0):Nat) L (dZ hn);generalize R.getD i 0=a at u ha F I;generalize T:R.getD (i+1) 0=b at u hb hb' F I;obtain⟨k,rfl⟩:∃k,b=a+k:=⟨b-a,eh u⟩
    obtain⟨r1,r2⟩:=zMl (n:=a) (k:=k) (nr hs (by rw[<- N,h9];rfl) pS hb);have O:=zW (dropR l a) k (by have:=zN (l:=l) (r:=a) (dP hb);exact dl hb this);obtain hback:=qRm (x:=x) _ (i5 _) (by rw[qM,qM,N]) (zW l a (dP hb)).1 O.1;rw[O.2]at hback;obtain eo:(takeR l a).length+(takeR (dropR l a) k).length=ofs l (a+k):=(wT l a k).symm;rw[eo]at hback;have D:back x k ((ofs l (a+k):Nat):Int)=((ofs l a:Nat):Int):=hback;obtain⟨p1,p2⟩:=yI (r:=a) N;obtain⟨m,hm,J⟩:=zHk (yP p2 p1) (h.nl.suffix (qL l a)) hs;obtain hre:reAt junkC x [((ofs l a:Nat):Int)]=some m:=(qQg (q:=x.length) rfl (bk hs) p1 (.inl rfl)).trans hm;obtain h0:¬((ofs l (a+k):Nat):Int)=0:=λz=>by have:=ofs_pos hb (Nat.zero_lt_of_lt u);simp_all
    have S:R.getD i 0=a:=by rw[r8,ha];rfl
    obtain main:stmtF x R (n+1) (i+1) ((ofs l (a+k):Nat):Int) q=Option.bind (some m) λr=>match r with
          |some _=>stmtF x R n i ((ofs l a:Nat):Int) ((ofs l (a+k):Nat):Int)
          |none=>some (i+1,((ofs l a:Nat):Int),((ofs l (a+k):Nat):Int)):=by
      have:=zEx (x:=x) (n:=n) (i:=i) (q:=q) h0 ha hb' r1;rw[r2,D,hre]at this;exact this
    rw[main,(by rw[<- S];rfl:lastG l R (i+1)=if junkE (dropR l a)then lastG l R i else some i),<- J];clear main hm J hre;cases m with
    |none =>rw[zX1];refine⟨λj z=>?_,λz=>(nomatch z)⟩;subst z;rw[S,T];rfl
    |some m =>exact⟨F,I⟩
theorem qCc(I:x.cps.toList=l)(hs:x.length<300)(h:Tell l M R c)(Y:∀d∈l,d<128):(∀j,lastG l R (R.length-1)=some j->∃e,xF x R=some ⟨(ofs l (R.getD j 0):Nat),(ofs l (R.getD (j+1) 0):Nat),upZ (ofs l (R.getD j 0)) e (mm 1000 0 (takeR (dropR l (R.getD j 0)) (R.getD (j+1) 0-R.getD j 0)) ⟨[],[(0,0)],""⟩)⟩) /\
  (lastG l R (R.length-1)=none->xF x R=some ⟨0,0,⟨0,[],[(0,0)],""⟩⟩):=by
 have J:l.length=x.length:=by rw[<- I,h9];rfl
 obtain⟨t,V,_⟩:=h.head;have S:0<R.length:=by rw[V];exact eQ _
 obtain hsm:=h.small;have D:R.getD (R.length-1) 0=l.count 10:=by have:=h.last;rw[eE]at this;rw[r8,this];rfl
 have N:ofs l (l.count 10)=l.length:=by
  obtain h1:=zN (i5 (l.count 10));have h2:dropR l (l.count 10)=[]:=eX λz=>by have:=List.count_pos_iff.mpr ((h.nl.suffix (qL l _)).mem z);simp_all
  have:=g0 List.length (qM l (l.count 10));rw[h2,eF]at this;exact this
 obtain⟨U,s2⟩:=zEw I hs h (R.length-1) 1000 0 (by lia) (by lia);rw[D,N,J]at U s2;have e0:xF x R=(stmtF x R 1000 (R.length-1) (x.length:Nat) 0).bind λr=>if r.1=0 then(if r.2.1=0 then readF x r.2.1 r.2.1 else none)else readF x r.2.1 r.2.2:=by
  unfold xF;rw[b6];rintro(z|z)
  .exact d9 z (dO S)
  .exact nt hs J hsm z
 rw[e0];refine⟨λj F=>?_,λF=>?_⟩
 .rw[U j F,n7];obtain⟨j1,j2⟩:=kQ F;have L:=h.lt (s9 j) (by lia);have T:=h.le (wF (R:=R) (i:=j+1) (by lia));generalize R.getD j 0=a at L;generalize R.getD (j+1) 0=b at L T;obtain⟨k,rfl⟩:∃k,b=a+k:=⟨b-a,by lia⟩
  obtain t2:=zW (dropR l a) k (by have:=zN (l:=l) (r:=a) (dP T);exact dl T this);have u:x.cps.toList=takeR l a++(takeR (dropR l a) k++dropR (dropR l a) k):=by rw[qM,qM,I]
  obtain hA:=zJh u;obtain hn:NlL (takeR (dropR l a) k):=λd hd=>by
   rcases t2.1 with z|⟨q,z⟩
   .rw[z]at hd;cases hd
   .rw[z,gL]at hd;exact(b5 hd).symm
  have O:∀d∈takeR (dropR l a) k,d<128:=λd hd=>Y d (by rw[<- I,u];exact iM _ (mL _ hd));obtain eo:(takeR l a).length+(takeR (dropR l a) k).length=ofs l (a+k):=(wT l a k).symm;rw[eo]at hA;obtain⟨e,X,_⟩:=qQf (a:=ofs l a) hs hA hn O;refine⟨e,?_⟩;rw[w7];exact X
 .obtain⟨q',Z⟩:=s2 F;rw[Z,(by rw[V];show ofs l 0=0;unfold ofs;rw[qPw];rfl:ofs l (R.getD 0 0)=0),n7];obtain e:readF x 0 0=some ⟨0,0,⟨0,[],[(0,0)],""⟩⟩:=by unfold readF wC;rw[b6 (oG 0)];rfl
  exact(d3 rfl).trans ((d3 rfl).trans e)
end
theorem qLv(u:e∈[34,39,92,10,35])(c:Nat):tr12 c=e ↔ c=e:=by
 constructor
 .intro h;by_cases h1:c=40\/c=123\/c=91
  .replace h:=aw h1 h;subst h;exact d9 u pi
  .replace h:=ao h1 h;by_cases h2:c=41\/c=125\/c=93
   .replace h:=aw h2 h;subst h;exact d9 u pi
   .replace h:=ao h2 h;by_cases h3:c=34\/c=39\/c=92\/c=10\/c=35
    .obtain h:=aw h3 h;exact h
    .replace h:=ao h3 h;subst h;exact d9 u pi
 .rintro rfl;revert c;decide
theorem qBn{q:Nat}(D:q=34\/q=39):∀(j:Nat){l:Ln},((l.map tr12).take j=replicate j q ↔ l.take j=replicate j q):=by
  intro F;induction F with
  |zero=>exact@λz=>⟨λz=>rfl,λz=>rfl⟩
  |succ j u =>
   exact@fun
   | []=>⟨λh=>(nomatch h),λh=>(nomatch h)⟩
   |c::l=>by simp only[fX,eR,eR,gS,rP,rP,(qLv (e:=q) (by rcases D with rfl|rfl <;> decide) c),u]
theorem drop_row:∀{r:Ln},10∈r->r.drop ((r.takeWhile (· != 10)).length+1)=dropR r 1:=by
 intro D;induction D with
 |nil=>exactλh=>nomatch h
 |cons c r u =>
  intro h;rw[cC];by_cases e:c=10
  .subst e;rw[zX1];show r=dropR r 0;rw[vD]
  .rw[d3 (by simpa using e),vX e];exact u ((List.mem_cons.mp h).resolve_left (fR e))
theorem zMr:∀c,c<128->och c->tr12 c=120\/c=10:=pw
theorem zAc:∀c,c<128->(opn c->tr12 c=40)/\(cls c->tr12 c=41):=pw
theorem m40{l:Ln}:march .out (40::l) m=march .out l { m with level:=m.level+1 }:=by rw[mout];exact bc pi (bc pi (ax rfl rfl))
theorem m41{l:Ln}:march .out (41::l) m=march .out l { m with level:=m.level-1 }:=by rw[mout];exact bc pi (bc pi (bc pi (ax rfl rfl)))
theorem m92{l:Ln}:march .out (92::d::l) m=march .out l (if d=10 then{ m with lno:=m.lno+1,cont:=if l=[]then 1 else m.cont }else m):=by rw[mout];exact bc pi (bc pi (bc pi (bc pi (bc pi (bc pi (ax rfl rfl))))))
theorem mquo{l:Ln}(h:c=34\/c=39):march .out (c::l) m=if(c::l).take 3=[c,c,c]then march (.txt c 2 m.lno) (l.drop 2) m else march (.txt c 0 m.lno) l m:=by rcases h with rfl|rfl <;> rw[mout,zX1,zX1,zX1,zX1,d3 pi]
section
variable{M m:Mk}{c f:Nat}{l:Ln}
def qPf(M:Mk):Prop:=M.cont≠2/\M.cont≠3
theorem qUc:∀(l:Ln)(m:Mk),(∀d∈l,d<128)->∃m',march .out (l.map tr12) m=march .out ((l.dropWhile och).map tr12) m'/\m'.level=m.level:=by
 intro I;induction I with
 |nil=>exactλm q=>⟨m,rfl,rfl⟩
 |cons d l F =>
  intro m h;rw[v1];by_cases u:och d=true
  .rw[d3 u,fX];rcases zMr d (h d (.head _)) u with e|e
   .exact ae (F m λz D=>h z (.tail _ D)) λm' e1 e2=>⟨m',by rw[e,zPl,e1],e2⟩
   .exact ae (F m.line λz D=>h z (.tail _ D)) λm' e1 e2=>⟨m',by rw[(jC d).mpr e,m10,e1],e2⟩
  .rw[b6 u];exact⟨m,rfl,rfl⟩
theorem qPp{q:Nat}(h:march (.txt q w f) [] m=some M)(u:qPf M):False:=by
 subst h;obtain⟨h1,h2⟩:=u;by_cases z:m.lno=f+1
 .exact h1 (d3 z)
 .exact h2 (b6 z)
theorem hJ(hc:c=34\/c=39)(N:qPf M):∀(n:Nat)(l:Ln)(m:Mk),l.length<=n->march (.txt c 2 f) (l.map tr12) m=some M->∃m',march .out ((l.drop (triN c false l)).map tr12) m'=some M/\m'.level=m.level
 |_,[],m,_,h=>(qPp h N).elim
 |0,_::_,_,F,_=>d9 F (bY _)
 |n+1,d::l,m,F,h=>by
  have F:=r7 F
  have J:c≠10:=by rcases hc with rfl|rfl <;> decide
  have O:c≠92:=by rcases hc with rfl|rfl <;> decide
  have L:tr12 c=c:=by rcases hc with rfl|rfl <;> rfl
  have u:triN c false (d::l)=triN c false l+1->∀m1:Mk,m1.level=m.level->march (.txt c 2 f) (l.map tr12) m1=some M->∃m',march .out (((d::l).drop (triN c false (d::l))).map tr12) m'=some M/\m'.level=m.level:=λe m1 hm h=>ae (hJ hc N n l m1 F h) λm' e1 e2=>⟨m',by rw[e];exact e1,e2.trans hm⟩
  rw[fX,mtxt]at h
  by_cases h1:tr12 d=120
  .replace h:=aw h1 h
   refine u (qPs ?_ ?_) m rfl h
   .rintro rfl;rw[L]at h1;rcases hc with rfl|rfl <;> cases h1
   .rintro rfl;cases h1
  replace h:=ao h1 h
  have h3:(tr12 d::l.map tr12).take (2+1)=quoteOf c 2 ↔ (d::l).take 3=[c,c,c]:=qBn hc 3 (l:=d::l)
  by_cases h2:(d::l).take 3=[c,c,c]
  .replace h:=aw (h3.mpr h2) h
   have S:=t9 (h2)
   refine⟨m,?_,rfl⟩
   rw[qEi,d3 S.1,d3 S.2]
   rw[<- List.map_drop]at h
   exact h
  replace h:=ao (λz=>h2 (h3.mp z)) h
  by_cases D:d=10
  .obtain h:=ao pi (aw ((jC d).mpr D) h)
   exact u (qPs (by rw[D];exact J.symm) (by rw[D];decide)) { m with lno:=m.lno+1 } rfl h
  replace h:=ao (λz=>D ((jC d).mp z)) h
  by_cases I:d=92
  .clear D h2 h3 h1 u L J
   subst I
   replace h:=aw (rfl) h
   cases l with
   |nil=>cases h
   |cons e l =>
    refine ae (hJ hc N n l _ (m4 (r7 F)) h) λm' e1 e2=>⟨m',by rw[zKe O];exact e1,e2.trans ?_⟩
    by_cases z:tr12 e=10
    .rw[d3 z]
    .rw[b6 z]
  replace h:=ao (λz=>I ((qLv pi d).mp z)) h
  refine u ?_ m rfl h
  by_cases e:d=c
  .clear h I D h3 h1 u L O J F hc N
   subst e
   rw[qXa,b6 λz=>h2 (g0 (d::·) z)]
  .exact qPs e I
theorem hZ(hc:c=34\/c=39)(N:qPf M):∀(n:Nat)(l:Ln)(m:Mk),l.length<=n->march (.txt c 0 f) (l.map tr12) m=some M->∃m',march .out ((l.drop (sngN c false l)).map tr12) m'=some M/\m'.level=m.level
 |_,[],m,_,h=>(qPp h N).elim
 |0,_::_,_,D,_=>d9 D (bY _)
 |n+1,d::l,m,D,h=>by
  have D:=r7 D
  have L:c≠10:=by rcases hc with rfl|rfl <;> decide
  have O:c≠92:=by rcases hc with rfl|rfl <;> decide
  have F:tr12 c=c:=by rcases hc with rfl|rfl <;> rfl
  have u:sngN c false (d::l)=sngN c false l+1->∀m1:Mk,m1.level=m.level->march (.txt c 0 f) (l.map tr12) m1=some M->∃m',march .out (((d::l).drop (sngN c false (d::l))).map tr12) m'=some M/\m'.level=m.level:=λe m1 hm h=>ae (hZ hc N n l m1 D h) λm' e1 e2=>⟨m',by rw[e];exact e1,e2.trans hm⟩
  rw[fX,mtxt]at h
  by_cases h1:tr12 d=120
  .replace h:=aw h1 h
   refine u (qXw ?_ ?_ ?_) m rfl h
   .rintro rfl;rw[F]at h1;rcases hc with rfl|rfl <;> cases h1
   .rintro rfl;cases h1
   .rintro rfl;cases h1
  replace h:=ao h1 h
  have h3:(tr12 d::l.map tr12).take (0+1)=quoteOf c 0 ↔ d=c:=(qBn hc 1 (l:=d::l)).trans ⟨λz=>(t9 z).1,λz=>by rw[z];rfl⟩
  by_cases h2:d=c
  .replace h:=aw (h3.mpr h2) h
   clear h3 h1 u F O L D hc N
   subst h2
   exact⟨m,by rw[zKg];exact h,rfl⟩
  replace h:=ao (λz=>h2 (h3.mp z)) h
  by_cases I:d=10
  .clear h2 h3 h1 u F O D hc N
   subst I
   obtain h:=aw rfl (aw (rfl) h)
   refine⟨m,?_,rfl⟩
   rw[zKh L]
   exact m10.trans h
  replace h:=ao (λz=>I ((jC d).mp z)) h
  by_cases J:d=92
  .clear I h2 h3 h1 u F L
   subst J
   replace h:=aw (rfl) h
   cases l with
   |nil=>cases h
   |cons e l =>
    refine ae (hZ hc N n l _ (m4 (r7 D)) h) λm' e1 e2=>⟨m',by rw[zKi O];exact e1,e2.trans ?_⟩
    by_cases z:tr12 e=10
    .rw[d3 z]
    .rw[b6 z]
  obtain h:=ao (λz=>J ((qLv pi d).mp z)) h
  exact u (qXw h2 J I) m rfl h
theorem qSo(hc:c=34\/c=39)(u:qPf M)(h:march .out ((c::l).map tr12) m=some M):∃m',march .out (((c::l).drop (strN (c::l))).map tr12) m'=some M/\m'.level=m.level:=by
 rw[fX,(by rcases hc with rfl|rfl <;> rfl:tr12 c=c),mquo hc]at h;have D:(c::l.map tr12).take 3=[c,c,c] ↔ l.take 2=[c,c]:=⟨λz=>(qBn hc 2).mp (t9 z).2,λz=>g0 (c::·) ((qBn hc 2).mpr z)⟩
 obtain eN:strN (c::l)=if l.take 2=[c,c]then triN c false (l.drop 2)+3 else sngN c false l+1:=rfl;by_cases q:l.take 2=[c,c]
 .rw[d3 (D.mpr q),<- List.map_drop]at h;refine ae (hJ hc u _ (l.drop 2) m (i5 _) h) λm' e1 e2=>⟨m',?_,e2⟩;rw[eN,d3 q,<- e1,lD];show march .out ((l.drop (triN c false (l.drop 2)+2)).map tr12) m'=_;rw[m7]
 .rw[b6 λz=>q (D.mp z)]at h;refine ae (hZ hc u _ l m (i5 _) h) λm' e1 e2=>⟨m',?_,e2⟩;rw[eN,b6 q];exact e1
theorem lock(hM:qPf M):∀(n p:Nat)(l:Ln)(z:Z)(m:Mk),l.length<n->NlL l->(∀d∈l,d<128)->march .out (l.map tr12) m=some M->z.stack.length=m.level->(mm n p l z).stack.length=M.level:=by
 intro zz;induction zz with
 |zero=>exactλw w w w h w w w w=>d9 h (dD _)
 |succ n ih =>
  intro p l z m hl hn X h hz;refine ae (qUc l m X) λm1 e1 e2=>?_;replace h:=e1.symm.trans h;have u:z.stack.length=m1.level:=hz.trans e2.symm;cases hc:l.dropWhile och with
  |nil =>rw[hc]at h;rw[zAk hc];cases(h);exact u
  |cons c r =>
   rw[hc]at h;rw[qHf hc];have L:c::r <:+ l:=hc▸eK _;obtain hnc:=hn.suffix L;have S:=X c (L.mem (.head _));have V:=special c S (qJl hc);obtain hlen:=L.length_le;rw[g5]at hlen;have go:∀{m2:Mk},march .out (((c::r).drop (kOf c r)).map tr12) m2=some M->(zOf (p+(l.takeWhile och).length) c r { z with last:=xB (l.takeWhile och) z.last }).stack.length=m2.level->(mm n (p+(l.takeWhile och).length+kOf c r) ((c::r).drop (kOf c r)) (zOf (p+(l.takeWhile och).length) c r { z with last:=xB (l.takeWhile och) z.last })).stack.length=M.level:=λh1 h2 =>
    ih _ _ _ _ (by rw[t3,g5];exact nu hl hlen (qHk (c:=c) (r:=r))) (hnc.suffix (bD _ _)) (λd hd=>X d (L.mem (gM hd))) h1 h2
   by_cases I:opn c=true
   .rw[fX,(zAc c S).1 I,m40]at h;obtain F:kOf c r=1:=d3 (.inl I);have J:∀{p:Nat}{z:Z},(zOf p c r z).stack=z.stack++[p]:=λ{p z}=>by unfold zOf;rw[d3 I]
    refine go (by rw[F];exact h) ?_;rw[J,g8];exact g0 (· + 1) u
   by_cases N:cls c=true
   .rw[fX,(zAc c S).2 N,m41]at h;have F:kOf c r=1:=d3 (.inr N);have J:∀{p:Nat}{z:Z},(zOf p c r z).stack=z.stack.dropLast:=λ{p z}=>by unfold zOf;rw[b6 I,d3 N]
    refine go (by rw[F];exact h) ?_;rw[J,iI];exact g0 (· - 1) u
   have T:¬(opn c=true\/cls c=true):=λz=>z.elim I N;have J:∀{p:Nat}{z:Z},(zOf p c r z).stack=z.stack:=λ{p z}=>by
    unfold zOf;rw[b6 I,b6 N];by_cases D:c=34\/c=39
    .rw[d3 D]
    rw[b6 D];by_cases O:c=35
    .rw[d3 O]
    rw[b6 O]
   by_cases D:c=34\/c=39
   .refine ae (qSo D hM h) λm2 f1 f2=>?_;obtain F:kOf c r=strN (c::r):=(b6 T).trans (d3 D);refine go (m2:=m2) (by rw[F];exact f1) ?_;rw[J];exact u.trans f2.symm
   have U:=hnc.one (by
    rintro rfl
    rcases V with z|z|z|z|z|z <;> cases z)
   by_cases O:c=35
   .subst O;obtain hm:=(hnc.suffix (n6 35 r)).mem U;obtain F:kOf 35 r=(r.takeWhile (· != 10)).length+2:=(b6 T).trans ((b6 D).trans (d3 rfl));have h:march .out (35::r.map tr12) m1=some M:=h;rw[m35 (qFg hm),zCm hm,m10]at h
    refine go (m2:=m1.line) (by rw[F,(by
     exact drop_row hm:(35::r).drop ((r.takeWhile (· != 10)).length+2)=dropR r 1)];exact h) ?_
    rw[J];exact u
   obtain k5:c=92:=by
    rcases V with z|z|z|z|z|z
    .exact d9 z I
    .exact d9 z N
    .exact d9 (.inl z) D
    .exact d9 (.inr z) D
    .exact d9 z O
    .exact z
   subst k5;refine cg (eT U) λd t Y=>?_;subst Y;obtain F:kOf 92 (d::t)=2:=(b6 T).trans ((b6 D).trans (b6 O));obtain h:=m92.symm.trans h;refine go (by rw[F];exact h) ?_;rw[J];by_cases q:tr12 d=10
   .rw[d3 q];exact u
   .rw[b6 q];exact u
end
theorem zDe:∀c,c<128->m6 " \t" ⟨#[c]⟩=blk c:=pw
section
variable{x:Str}{b p n:Nat}{l:Ln}
theorem qDt(hs:x.length<=1000):∀(n p:Nat)(l:Ln),l.length<n->Re.At x.cps b p l->(∀d∈l,d<128)->10∈l->xO x n (p:Nat)=some ((p+(l.takeWhile blk).length:Nat):Int)
 |_,_,[],_,_,_,h=>nomatch h
 |0,_,_::_,h,_,_,_=>d9 h (dD _)
 |n+1,p,c::l,hl,h,h7,hm=>by
  show((signAt x (p:Nat)).bind λc=>if m6 " \t" c then xO x n ((p:Nat)+1)else some ((p:Nat):Int))=_
  rw[xQ hs h,n7,zDe c (h7 c (.head _)),cC]
  by_cases e:blk c=true
  .rw[d3 e,d3 e]
   have:=qDt hs n (p+1) l (dZ hl) h.cons.2.2 (λd hd=>h7 d (.tail _ hd)) ((List.mem_cons.mp hm).resolve_left (fR (qAk e).2.1))
   rw[g5,m7 _ 1,<- i7]
   exact this
  .rw[b6 e,b6 e];rfl
theorem zHg(hs:x.length<=1000):∀(n p:Nat)(l:Ln),l.length<n->Re.At x.cps b p l->(∀d∈l,d<128)->qDa x (b:Nat) n (p:Nat)=some ((p+(l.takeWhile blk).length:Nat):Int):=by
  intro D;induction D with
  |zero=>exactλq q h q q=>d9 h (dD _)
  |succ n u =>
   exact fun
   |p,[],hl,h,h7=>by rw[h.nil];refine bc (oG _) ?_;rfl
   |p,c::l,hl,h,h7=>by
    show(if((p:Nat):Int)<((b:Nat):Int)then(signAt x (p:Nat)).bind λc=>if m6 " \t" c=true then qDa x (b:Nat) n ((p:Nat)+1)else some ((p:Nat):Int)else _)=_;rw[d3 (Int.ofNat_lt.mpr h.cons.1),xQ hs h,n7,zDe c (h7 c (.head _)),cC];by_cases e:blk c=true
    · rw[d3 e,d3 e]
      have:=u (p+1) l (dZ hl) h.cons.2.2 (λd hd=>h7 d (.tail _ hd));rw[g5,m7 _ 1,<- i7];exact this
    · rw[b6 e,b6 e];rfl
theorem qRl(hs:x.length<300)(h:Re.At x.cps b a l)(u:∀d∈l,d<128):qLh x (a:Nat) (b:Nat)=some ⟨(l.takeWhile blk).toArray⟩:=by
 obtain hlen:=h.len;obtain hb:b<=x.length:=h.sz;unfold qLh;rw[zHg (bk hs) 1000 a l (ka hs hlen hb) h u,iV,qIr (b7 h.le hb)];congr 2;obtain h1:(x.cps.toList.drop a).take (b-a)=l:=h.eq;rw[<- (by
  rw[List.take_take,bQ (dv hlen (qBz (f:=blk) l))]:((x.cps.toList.drop a).take (b-a)).take (l.takeWhile blk).length=(x.cps.toList.drop a).take (l.takeWhile blk).length),h1]
 have:=@nK _ (l.takeWhile blk) (l.dropWhile blk);rw[u9]at this;rw[this]
def qJy:Nat->Nat->Nat->Ln->Option (Option (Nat×Nat))
 |0,_,_,_=>none
 |n+1,i,j,l=>if l=[]then some none else match itemE l with
  |some k=>some (some (i,j+k-1))
  |none=>qJy n (j+(l.takeWhile (· != 10)).length+1) (j+(l.takeWhile (· != 10)).length+1) (dropR l 1)
theorem qFk(h:itemE l=some k):0<k/\k<=l.length:=by
 refine px h λc h1 h2=>?_;by_cases e:itc c=true
 .replace h2:=aw e h2;subst h2;refine⟨eQ _,?_⟩;obtain h3:l.dropWhile blk≠[]:=λz=>by rw[z]at h1;cases h1
  obtain h4:=g0 List.length (@u9 _ blk l);rw[g8]at h4;have:=List.length_pos_iff.mpr h3;exact h4▸e6 this _
 .replace h2:=ao e h2;cases h2
theorem zHn:∀(n i j:Nat)(l:Ln),l.length<n->NlL l->∃r,qJy n i j l=some r/\∀m,r=some m->i<=j->m.1<=m.2/\m.2<j+l.length:=by
 intro S;induction S with
 |zero=>exactλq q q h q=>d9 h (dD _)
 |succ n O =>
  intro i j l N D;show∃r,(if l=[]then some none else match itemE l with|some k=>some (some (i,j+k-1))|none=>qJy n (j+(l.takeWhile (· != 10)).length+1) (j+(l.takeWhile (· != 10)).length+1) (dropR l 1))=some r/\_;by_cases e:l=[]
  .rw[d3 e];exact⟨none,rfl,λm z=>nomatch z⟩
  rw[b6 e];cases hk:itemE l with
  |some k =>obtain⟨u,J⟩:=qFk hk;refine⟨some (i,j+k-1),rfl,λm z F=>?_⟩;subst z;exact⟨kb u F,kc u J⟩
  |none =>obtain hm:=D.mem e;obtain hlen:=g0 List.length (drop_row hm);rw[t3]at hlen;refine ae (yU hm) λt L q=>?_;obtain h1:=g0 List.length L;rw[g8,g5]at h1;refine ae (O (j+(l.takeWhile (· != 10)).length+1) (j+(l.takeWhile (· != 10)).length+1) (dropR l 1) (kf N hlen h1) (D.suffix (qL l 1))) λr r1 r2=>⟨r,r1,λm z q=>?_⟩;obtain⟨r3,I⟩:=r2 m z (i5 _);exact⟨r3,kg hlen h1 I⟩
theorem qJz(hs:x.length<300):∀(n i j:Nat)(l:Ln)(r:Option (Nat×Nat)),Re.At x.cps x.length (a+j) l->NlL l->qJy n i j l=some r->uL x n ((a+i:Nat):Int) ((a+j:Nat):Int)=some (r.map λm=>(((a+m.1:Nat):Int),((a+m.2:Nat):Int))):=by
 intro I;induction I with
 |zero=>exactλz z z z z z h=>nomatch h
 |succ n F =>
  intro i j l r u D h;obtain h:(if l=[]then some none else match itemE l with|some k=>some (some (i,j+k-1))|none=>qJy n (j+(l.takeWhile (· != 10)).length+1) (j+(l.takeWhile (· != 10)).length+1) (dropR l 1))=some r:=h;obtain hlen:=u.len;show(if((a+j:Nat):Int)<((x.length:Nat):Int)then(reAt itemC x [((a+j:Nat):Int)]).bind λr=>match r with
   |some m=>some (some (((a+i:Nat):Int),((m.2:Nat):Int)-1))
   |none=>uL x n (dF x nlT ((a+j:Nat):Int)+1) (dF x nlT ((a+j:Nat):Int)+1)
  else some none)=_
  by_cases e:l=[]
  .replace h:=aw e h;subst h;rw[e]at hlen;refine bc (by rw[Int.ofNat_lt];exact Nat.not_lt.mpr (v6 hlen.symm)) ?_;rfl
  replace h:=ao e h;rw[d3 (Int.ofNat_lt.mpr (hlen▸w8 (List.length_pos_iff.mpr e))),((qQg (q:=x.length) rfl (bk hs) u.le (.inl rfl)).trans (zHo u (b7 hs pi)))];cases hk:itemE l with
  |some k =>rw[hk]at h;subst h;have:=(qFk hk).1;show some (some (((a+i:Nat):Int),((a+j+k:Nat):Int)-1))=some (some (((a+i:Nat):Int),((a+(j+k-1):Nat):Int)));rw[(ki this:((a+j+k:Nat):Int)-1=((a+(j+k-1):Nat):Int))]
  |none =>rw[hk]at h;obtain hm:=D.mem e;rw[(by rw[(qKk u hm)];simp +arith:dF x nlT ((a+j:Nat):Int)+1=((a+(j+(l.takeWhile (· != 10)).length+1):Nat):Int))];refine ae (yU hm) λt J z=>?_;obtain h1:=g0 List.length J;rw[g8,g5]at h1;obtain hA2:=At.skip ((l.takeWhile (· != 10)).length+1) u (by simp[h1]);rw[drop_row hm]at hA2;exact F _ _ _ r (by rw[show a+(j+(l.takeWhile (· != 10)).length+1)=a+j+((l.takeWhile (· != 10)).length+1)by exact gN (i7 _ _ (_+1))];exact hA2) (D.suffix (qL l 1)) h
end
structure From(x:Str)(a:Nat)(B:Ln):Prop where
 small:x.length<300
 le:a<=x.length
 eq:x.cps.toList.drop a=B
 row:Lines (x.cps.toList.take a)
 low:∀d∈B,d<128
theorem From.at_(h:From x a B)(u:j<=B.length):Re.At x.cps x.length (a+j) (B.drop j):=At.skip j (yP h.eq h.le) u
theorem From.len(h:From x a B):a+B.length=x.length:=by have:=g0 List.length h.eq;simp only[t3,h9]at this;obtain h2:x.cps.size=x.length:=rfl;have:=h.le;lia
theorem From.cut(h:From x a B)(hi:i<=B.length):zH x ((a+i:Nat):Int) ((a+i+t:Nat):Int)=⟨((B.drop i).take t).toArray⟩:=by have:=h.len;rw[qIr (this▸e6 hi _),<- h.eq,lD]
theorem qHn(h1:rfindF x o+1=s)(h2:uL x 1000 s (o+1)=some (some m)):kZ x o=some (zH x m.1 m.2,false):=by unfold kZ;rw[h1,h2];rfl
theorem qHo(h1:rfindF x o+1=s)(h2:uL x 1000 s (o+1)=some none)(h3:xO x 1000 s=some j):kZ x o=some (zH x s j,true):=by unfold kZ;rw[h1,h2,h3];rfl
theorem qUu(I:B.length<300)(F:NlL B)(D:o<B.length):∃pre L,(∀d∈pre.cps.toList,d∈B)/\pre.length<=B.length/\∀x a,From x a B->kZ x ((a+o:Nat):Int)=some (pre,L):=by
 refine bi (qDb _ (B.take o) (i5 _)) λS1 C e h1 h2=>?_;have u:S1.length+C.length=o:=by have:=g0 List.length e;rw[w9,g8]at this;exact kj D this
 have N:B=S1++(C++B.drop o):=by
  conv=>lhs;rw[<- gD o B,e]
  rw[u3]
 have J:∀x a,From x a B->rfindF x ((a+o:Nat):Int)+1=((a+S1.length:Nat):Int):=λx a h=>by
  have:=qJb (by
   conv=>lhs;rw[<- gD a x.cps.toList,h.eq,N]
   rw[u3,<- N]) (h.row.app h1) h2
  rw[g8,(by
   rw[w9,h9];exact bQ h.le:(x.cps.toList.take a).length=a),i7,u]at this
  exact this
 obtain hd1:B.drop S1.length=C++B.drop o:=by
  conv=>lhs;rw[N]
  exact nJ
 obtain hne1:B.drop S1.length≠[]:=λz=>by have:=g0 List.length z;rw[t3]at this;exact kk D u this
 have e1:∀a:Nat,((a+o:Nat):Int)+1=((a+(o+1):Nat):Int):=λq=>rfl;refine ae (zHn 1000 S1.length (o+1) (B.drop (o+1)) (by rw[t3];exact cz I) (F.suffix (bD _ _))) λr r1 r2=>?_;cases r with
 |some m =>
  obtain⟨m1,m2⟩:=r2 m rfl (by exact m3 (iJ u));rw[t3]at m2;refine⟨⟨((B.drop m.1).take (m.2-m.1)).toArray⟩,false,λd hd=>?_,?_,λx a h=>?_⟩
  .exact gM (gO hd)
  .show((B.drop m.1).take (m.2-m.1)).toArray.size<=_;rw[s8,w9,t3];exact kl
  .obtain hi:=qJz h.small 1000 _ _ _ _ (h.at_ (lN D)) (F.suffix (bD _ _)) r1;rw[<- e1]at hi;rw[qHn (J x a h) hi];have:=h.cut (i:=m.1) (t:=m.2-m.1) (by exact pd D m1 m2);rw[show a+m.1+(m.2-m.1)=a+m.2 by exact km m1]at this;exact g0 (λz=>some (z,false)) this
 |none =>
  refine⟨⟨((B.drop S1.length).takeWhile blk).toArray⟩,true,λd hd=>?_,?_,λx a h=>?_⟩
  .exact gM ((lS _).subset hd)
  .show((B.drop S1.length).takeWhile blk).toArray.size<=_;rw[s8];have:=qBz (f:=blk) (B.drop S1.length);rw[t3]at this;exact b7 this (gH _ _)
  .obtain hl:=h.len;obtain hi:=qJz h.small 1000 _ _ _ _ (h.at_ (lN D)) (F.suffix (bD _ _)) r1;rw[<- e1]at hi;rw[qHo (J x a h) hi (qDt (by exact bk h.small) 1000 _ _ (by rw[t3];exact cz I) (h.at_ (by exact eg D u)) (λd hd=>h.low d (gM hd)) ((F.suffix (bD S1.length B)).mem hne1)),h.cut (by exact eg D u)];have:=@nK _ ((B.drop S1.length).takeWhile blk) ((B.drop S1.length).dropWhile blk);rw[u9]at this;rw[this]
theorem zCc(D:0<n):∀(l:Ln)(col:Nat),(expL n col l).length<=n*l.length:=by
 intro F;induction F with
 |nil=>exactλq=>v0 _
 |cons c l u =>
  intro col;show(if c=9 then replicate (n-col%n) 32++expL n (col+(n-col%n)) l else c::expL n (if c=10\/c=13 then 0 else col+1) l).length<=n*(l.length+1);rw[Nat.mul_succ];by_cases h:c=9
  .rw[d3 h,g8,gC,m7];exact u2 (u _) (gH _ _)
  .rw[b6 h,g5];exact u2 (u _) D
theorem zCb:∀(l:Ln)(col:Nat),(∀d∈l,d<128)->∀d∈expL n col l,d<128:=by
 intro D;induction D with
 |nil=>exactλw w w h=>nomatch h
 |cons c l u =>
  intro col h d hd;obtain hd:d∈(if c=9 then replicate (n-col%n) 32++expL n (col+(n-col%n)) l else c::expL n (if c=10\/c=13 then 0 else col+1) l):=hd;obtain h':∀d∈l,d<128:=λd hd=>h d (.tail _ hd);by_cases q:c=9
  .rw[d3 q]at hd;rcases List.mem_append.mp hd with z|z
   .rw[iX z];decide
   .exact u _ h' d z
  .rw[b6 q]at hd;rcases List.mem_cons.mp hd with z|z
   .rw[z];exact h c (.head _)
   .exact u _ h' d z
theorem qXj(D:y.length<=300)(u:∀d∈y.cps.toList,d<128):tabOk y 8:=by
 obtain hy:y.cps.toList.length=y.length:=h9;obtain h1:(expandT (Int.toNat 8) y).length<=8*y.length:=by show(expL 8 0 y.cps.toList).toArray.size<=_;rw[s8,<- hy];exact zCc pi _ _
 unfold tabOk;rw[e9 pi,e9 pi,e9 (b7 h1 (bj (n4 8 D))),uB];rfl;exact zCb _ _ u
noncomputable def sp4(c:Nat):Bool:=c==61||c==60||c==62||c==33
theorem qXu:∀c,c<128->m6 "=<>!" ⟨#[c]⟩=sp4 c:=pw
noncomputable def pv(B:Ln):Nat->Nat
 |0=>10
 |k+1=>B.getD k 0
def bsL(B:Ln):Nat->Nat->Ln->Nat->Option (Nat×Bool)
 |0,_,_,_=>none
 |_+1,k,[],_=>some (k,false)
 |n+1,k,c::t,lev=>if opn c then bsL B n (k+1) t (lev+1)else if cls c then bsL B n (k+1) t (lev-1)
  else if c=34\/c=39 then bsL B n (k+strN (c::t)) ((c::t).drop (strN (c::t))) lev
  else if c=35 then some (k,false)
  else if(lev=0/\c=61)/\sp4 (pv B k)=false/\t.head?≠some 61 then some (k,true)else bsL B n (k+1) t lev
theorem zNv:∀(n k lev:Nat)(l:Ln),l.length<n->∃r,bsL B n k l lev=some r/\k<=r.1/\(r.2->r.1<k+l.length):=by
  intro T;induction T with
  |zero=>exactλq q q h=>d9 h (dD _)
  |succ n N =>
   exact fun
   |k,lev,[],_=>⟨_,rfl,i5 _,λz=>nomatch z⟩
   |k,lev,c::t,D=>by
    have D:=dZ D;have one:∀u,∃r,bsL B n (k+1) t u=some r/\k<=r.1/\(r.2=true->r.1<k+(c::t).length):=λu=>by obtain⟨r,e1,e2,F⟩:=N (k+1) u t D;exact⟨r,e1,m4 e2,λz=>iZ (F z) (i8 k 1 _)⟩
    show∃r,(if opn c then bsL B n (k+1) t (lev+1)else if cls c then bsL B n (k+1) t (lev-1)
      else if c=34\/c=39 then bsL B n (k+strN (c::t)) ((c::t).drop (strN (c::t))) lev
      else if c=35 then some (k,false)
      else if(lev=0/\c=61)/\sp4 (pv B k)=false/\t.head?≠some 61 then some (k,true)else bsL B n (k+1) t lev)=some r/\_
    by_cases J:opn c=true
    · rw[d3 J];exact one _
    rw[b6 J];by_cases I:cls c=true
    · rw[d3 I];exact one _
    rw[b6 I];by_cases L:c=34\/c=39
    · rw[d3 L]
      have h3:((c::t).drop (strN (c::t))).length=t.length+1-strN (c::t):=by rw[t3,g5]
      obtain⟨r,e1,e2,F⟩:=N (k+strN (c::t)) lev ((c::t).drop (strN (c::t))) (kn D (qIo (c:=c) (r:=t)) h3);exact⟨r,e1,dP e2,λz=>iZ (F z) (by rw[h3,i7];exact g0 (k + ·) (dT (qGu (c:=c) (r:=t))))⟩
    rw[b6 L];by_cases O:c=35
    · rw[d3 O];exact⟨_,rfl,i5 _,λz=>nomatch z⟩
    rw[b6 O];by_cases S:(lev=0/\c=61)/\sp4 (pv B k)=false/\t.head?≠some 61
    · rw[d3 S];exact⟨_,rfl,i5 _,λq=>by rw[g5];exact ko⟩
    · rw[b6 S];exact one _
section
variable{x:Str}
theorem At.pre{q:Nat}(h:Re.At t q p l)(u:j<=l.length):Re.At t (p+j) p (l.take j):=by obtain hl:=h.len;refine⟨?_,n5 _ _,by have:=h.sz;exact kp u hl this⟩;have:=h.eq;unfold qEf at this |-;rw[<- this,List.take_take,w7,bQ (dv hl u)]
theorem qCz(h:Lines A)(u:A≠[]):A.getLast?=some 10:=by obtain⟨q,rfl⟩:=h.resolve_left u;exact gL
theorem zEf:∀l:Ln,10∉l.takeWhile blk:=by
 intro D;induction D with
 |nil=>exactλh=>nomatch h
 |cons c l u =>
  intro h;rw[cC]at h;by_cases e:blk c=true
  .rw[d3 e]at h;exact(List.mem_cons.mp h).elim (λz=>(qAk e).2.1 z.symm) (u)
  .rw[b6 e]at h;exact nomatch h
theorem qSi{A t:Ln}:(A++10::t).take (A.length+1)=A++[10]:=by rw[show A++10::t=(A++[10])++t by rw[u3];rfl,show A.length+1=(A++[10]).length by rw[g8];rfl,nK]
theorem zGn(h:From x a B)(hk:k<B.length):(if((a+k:Nat):Int)=0 then some true else(signAt x (((a+k:Nat):Int)-1)).map λc=>!Txt.contains "=<>!" c)=some (!sp4 (pv B k)):=by
 obtain hlen:=h.len;obtain hs:=h.small;cases k with
 |zero =>
  by_cases D:a=0
  .refine ax (by rw[D];rfl) ?_;rfl
  .refine bc (by simp[D]) ?_;have F:(x.cps.toList.take a).length=a:=by rw[w9,h9];exact bQ h.le
   obtain h1:=qCz h.row (λz=>D (by rw[<- F,z];rfl));rw[eE,F,List.getElem?_take,d3 (by exact Nat.sub_one_lt D)]at h1;have h2:a-1<x.cps.toList.length:=by rw[h9];have:x.cps.size=x.length:=rfl;exact kq hlen hk this
   rw[show((a+0:Nat):Int)-1=((a-1:Nat):Int)by exact kr D,xQ (by exact bk hs) (yP (by
    rw[dM h2]
    rw[u8 h2]at h1
    rw[b5 h1]:x.cps.toList.drop (a-1)=10::x.cps.toList.drop (a-1+1)) (by exact kt hlen)),iV,qXu 10 pi]
   rfl
 |succ k =>rw[b6 (by exact ku),show((a+(k+1):Nat):Int)-1=((a+k:Nat):Int)by exact Int.sub_eq_iff_eq_add.mpr rfl];have u:k<B.length:=fO hk;obtain h1:=h.at_ (m9 u);rw[dM u]at h1;rw[xQ (by exact bk hs) h1,iV,qXu _ (h.low _ (iP u))];show _=some (!sp4 (B.getD k 0));rw[r8,u8 u];rfl
theorem zNw(h:From x a B):∀(n k lev:Nat)(l:Ln)(r:Nat×Bool),Re.At x.cps (a+e) (a+k) l->e<=B.length->(∀d∈l,d<128)->NlL l->bsL B n k l lev=some r->bsF x ((a+e:Nat):Int) n ((a+k:Nat):Int) ((lev:Nat):Int)=some (((a+r.1:Nat):Int),r.2):=by
  intro X;induction X with
  |zero=>exactλy y y y y y y y h=>nomatch h
  |succ n V =>
   exact fun
   |k,lev,[],r,hA,_,_,_,D=>by subst D;rw[hA.nil];exact bc (oG _) rfl
   |k,lev,c::t,r,hA,he,h7,hn,D=>by
    have hs:=h.small;have I:x.length<=1000:=bk hs;obtain hlen:=h.len;have L:=hA.cons.1;obtain⟨o1,o2⟩:=zBe c (h7 c (.head _));obtain D:(if opn c then bsL B n (k+1) t (lev+1)else if cls c then bsL B n (k+1) t (lev-1)
      else if c=34\/c=39 then bsL B n (k+strN (c::t)) ((c::t).drop (strN (c::t))) lev
      else if c=35 then some (k,false)
      else if(lev=0/\c=61)/\sp4 (pv B k)=false/\t.head?≠some 61 then some (k,true)else bsL B n (k+1) t lev)=some r:=D
    have one:∀F,bsL B n (k+1) t F=some r->bsF x ((a+e:Nat):Int) n (((a+k:Nat):Int)+1) ((F:Nat):Int)=some (((a+r.1:Nat):Int),r.2):=λF D=>V (k+1) F t r hA.cons.2.2 he (λd hd=>h7 d (.tail _ hd)) (hn.suffix (n6 _ _)) D;show(if((a+k:Nat):Int)<((a+e:Nat):Int)then(signAt x ((a+k:Nat):Int)).bind λch =>
      if m6 "([{" ch then bsF x ((a+e:Nat):Int) n (((a+k:Nat):Int)+1) (((lev:Nat):Int)+1)
      else if m6 ")]}" ch then bsF x ((a+e:Nat):Int) n (((a+k:Nat):Int)+1) (if((lev:Nat):Int)=0 then((lev:Nat):Int)else((lev:Nat):Int)-1)
      else if ch="\""\/ch="'"then(reAt stringC x [((a+k:Nat):Int),((a+e:Nat):Int)]).bind λr=>r.bind λm=>bsF x ((a+e:Nat):Int) n (m.2:Nat) ((lev:Nat):Int)
      else if ch="#"then some (((a+k:Nat):Int),false)
      else(eqF x ((a+k:Nat):Int) ((lev:Nat):Int) ch).bind λt=>if t then some (((a+k:Nat):Int),true)else bsF x ((a+e:Nat):Int) n (((a+k:Nat):Int)+1) ((lev:Nat):Int)
    else some (((a+k:Nat):Int),false))=_
    rw[d3 (Int.ofNat_lt.mpr L),xQ I hA,n7,o1,o2];by_cases U:opn c=true
    · rw[d3 U]at D ⊢;exact one _ D
    rw[b6 U]at D ⊢;by_cases S:cls c=true
    · rw[d3 S]at D ⊢
      rw[(by
        by_cases z:lev=0
        · rw[z];rfl
        · rw[b6 (by simp[z])];exact dz z:(if((lev:Nat):Int)=0 then((lev:Nat):Int)else((lev:Nat):Int)-1)=((lev-1:Nat):Int))];exact one _ D
    rw[b6 S]at D ⊢;by_cases J:c=34\/c=39
    · replace D:=aw J D
      obtain hq:(⟨#[c]⟩:Str)="\""\/(⟨#[c]⟩:Str)="'":= J.imp (λz=>by rw[z];rfl) λz=>by rw[z];rfl
      rw[d3 hq,((qZu I (kv he hlen L) (hlen▸e6 he _)).trans (qXp hA J (ky he hs hlen)))];rw[i7];exact V (k+strN (c::t)) lev _ r (by rw[<- i7];exact At.skip _ hA qGu) he (λd hd=>h7 d (gM hd)) (hn.suffix (bD _ _)) D
    replace D:=ao J D;rw[b6 (λz=>J (z.imp one_eq.mp one_eq.mp))];by_cases N:c=35
    · replace D:=aw N D
      subst D;exact ax (by rw[N];rfl) rfl
    replace D:=ao N D;rw[b6 (λz=>N (one_eq.mp z):¬(⟨#[c]⟩:Str)="#")];obtain he1:eqF x ((a+k:Nat):Int) ((lev:Nat):Int) ⟨#[c]⟩=some (decide ((lev=0/\c=61)/\sp4 (pv B k)=false/\t.head?≠some 61)):=by
      unfold eqF;by_cases q:lev=0/\c=61
      · rw[d3 ⟨by rw[q.1];rfl,by rw[q.2];rfl⟩,zGn h (la he L),n7]
        refine cg (eT (hn.one (by rw[q.2];decide))) λd u T=>?_;subst T;obtain hg2:signAt x (((a+k:Nat):Int)+1)=some ⟨#[d]⟩:=xQ I hA.cons.2.2;cases hp:sp4 (pv B k)with
        |true=>rw[zX1,k9 (λz=>nomatch z.2.1)]
        |false =>
          rw[d3 pi,hg2,iV];refine g0 some ?_;rw[(by
            by_cases z:d=61
            · rw[z];rfl
            · rw[k9 z];exact beq_eq_false_iff_ne.mpr λw=>z (t9 w).1:((⟨#[d]⟩:Str).cps.toList == [61])=decide (d=61))]
          by_cases z:d=61
          · rw[e9 z,k9 (λw=>w.2.2 (by rw[z];rfl))];rfl
          · rw[k9 z,e9 ⟨q,rfl,λw=>z (b5 w)⟩];rfl
      · rw[b6 (λz=>q ⟨Int.ofNat_inj.mp z.1,one_eq.mp z.2⟩),k9 (λz=>q z.1)]
    rw[he1,n7];by_cases O:(lev=0/\c=61)/\sp4 (pv B k)=false/\t.head?≠some 61
    · replace D:=aw O D
      subst D;exact ax (e9 O) rfl
    · obtain D:=ao O D
      rw[b6 (by rw[k9 O];decide)];exact one _ D
theorem qPi(hs:x.length<=1000){b:Nat}:∀(n p:Nat)(l:Ln),l.length<n->Re.At x.cps b p l->(∀d∈l,d<128)->10∈l->yR x n (p:Nat)=some ((p+(l.takeWhile λc=>!b3 c).length:Nat):Int)
 |_,_,[],_,_,_,h=>nomatch h
 |0,_,_::_,h,_,_,_=>d9 h (dD _)
 |n+1,p,c::l,hl,h,h7,hm=>by
  show((signAt x (p:Nat)).bind λc=>if m6 " \t\n" c then some ((p:Nat):Int)else yR x n ((p:Nat)+1))=_
  rw[xQ hs h,n7,zKx c (h7 c (.head _)),cC]
  by_cases e:b3 c=true
  .rw[d3 e,b6 (by rw[e];decide)];rfl
  .rw[b6 e,d3 (by rw[(gF _).mp e];rfl)]
   have:=qPi hs n (p+1) l (dZ hl) h.cons.2.2 (λd hd=>h7 d (.tail _ hd)) ((List.mem_cons.mp hm).resolve_left (by rintro rfl;exact e rfl))
   rw[g5,m7 _ 1,<- i7]
   exact this
theorem wK(h1:xO x 1000 (a:Nat)=some sp)(h2:dF x nlT sp+1=e)(h3:bsF x e 1000 sp 0=some (i,f))(h4:qBw x e i f=some (j,g))(h5:(if g then some j else yR x 1000 sp)=some k):uU x (a:Nat)=some (zH x (a:Nat) k):=by unfold uU;rw[h1,n7,h2,h3,n7,h4,n7,h5];rfl
theorem zNx(u:y.length<1000):∃r,reAt bs7C y []=some r/\r.isSome=bsE y.cps.toList:=by obtain hA:Re.At y.cps y.cps.size 0 y.cps.toList:=yP (x:=y) rfl (v0 _);refine ae (zQm hA u) λr e1 e2=>⟨r,?_,e2⟩;rw[<- e1];refine ax pi ?_;show qS bs7C y.cps (min 0 y.cps.size) (min (2 ^ 63-1:Int).toNat y.cps.size)=_;obtain hx:y.cps.size=y.length:=rfl;rw[bQ (v0 _),dX];exact b7 (m9 (hx▸u)) pi
theorem qVv(D:B.length<300)(Z:NlL B)(X:B≠[])(Y:∀d∈B,d<128):∃y:Str,(∀d∈y.cps.toList,d∈B)/\y.length<=B.length/\∀x a,From x a B->uU x (a:Nat)=some y:=by
 obtain k0:=qBz (f:=blk) B;obtain hd:B.drop (B.takeWhile blk).length=B.dropWhile blk:=by have:=@nJ _ (B.takeWhile blk) (B.dropWhile blk);rw[u9]at this;exact this
 have S:=Z.mem X;have hm:10∈B.drop (B.takeWhile blk).length:=by rw[hd];exact(List.mem_append.mp (by rw[u9];exact S)).resolve_left λz=>zEf B z
 generalize hk:(B.takeWhile blk).length=k at k0 hm;have F:=λd (hd:d∈B.drop k)=>Y d (gM hd);refine ae (yU hm) λt U w=>?_;obtain hl1:=g0 List.length U;rw[g8,g5,t3]at hl1;obtain hrow:(B.drop k).take (((B.drop k).takeWhile (· != 10)).length+1)=(B.drop k).takeWhile (· != 10)++[10]:=by have:=@qSi ((B.drop k).takeWhile (· != 10)) t;rw[<- U]at this;exact this
 generalize hq:((B.drop k).takeWhile (· != 10)).length=q at hl1 hrow;obtain hrn:NlL ((B.drop k).take (q+1)):=λd hd=>by rw[hrow,gL]at hd;exact(b5 hd).symm
 refine bh (zNv (B:=B) 1000 k 0 ((B.drop k).take (q+1)) (by rw[w9,t3];exact lb D)) λr r1 r2 r3=>?_;have V:((B.drop k).take (q+1)).length=q+1:=by rw[w9,t3];exact lc hl1
 rw[V]at r3;have u:∀x a,From x a B->xO x 1000 (a:Nat)=some ((a+k:Nat):Int)/\dF x nlT ((a+k:Nat):Int)+1=((a+(k+q+1):Nat):Int)/\bsF x ((a+(k+q+1):Nat):Int) 1000 ((a+k:Nat):Int) 0=some (((a+r.1:Nat):Int),r.2)/\yR x 1000 ((a+k:Nat):Int)=some ((a+k+((B.drop k).takeWhile λc=>!b3 c).length:Nat):Int):=λx a h=>by
  obtain hs:=h.small;obtain hlen:=h.len;obtain hAk:=h.at_ k0;refine⟨?_,?_,zNw h 1000 k 0 _ r (by rw[show a+(k+q+1)=a+k+(q+1)by exact gN (i7 _ _ (_+1))];exact(At.pre hAk (j:=q+1) (by rw[t3];simp[hl1]))) (by exact ld hl1) (λd hd=>F d (gO hd)) hrn r1,qPi (by exact bk hs) 1000 (a+k) (B.drop k) (by rw[t3];exact cz D) hAk F hm⟩
  .have:=qDt (by exact bk hs) 1000 (a+0) (B.drop 0) (by rw[lY];exact b7 D pi) (h.at_ (v0 _)) Y S;rw[lY,hk]at this;exact this
  .rw[qKk hAk hm,hq];simp +arith
 have L:∀x a,From x a B->zH x (a:Nat) ((a+k+((B.drop k).takeWhile λc=>!b3 c).length:Nat):Int)=⟨(B.take (k+((B.drop k).takeWhile λc=>!b3 c).length)).toArray⟩:=λx a h=>by have:=h.cut (i:=0) (t:=k+((B.drop k).takeWhile λc=>!b3 c).length) (v0 _);rw[i7];exact this
 have inB:∀j,(∀d∈(⟨(B.take j).toArray⟩:Str).cps.toList,d∈B)/\(⟨(B.take j).toArray⟩:Str).length<=B.length:=λj=>⟨λd hd=>gO hd,by
  show(B.take j).toArray.size<=_
  rw[s8,w9];exact gB _ _⟩
 by_cases T:r.2=true
 .obtain r4:=r3 T;refine ae (zNx (by
   show((B.drop (r.1+1)).take (k+q+1-(r.1+1))).toArray.size<1000
   rw[s8,w9,t3];exact lg D)) λm m1 m2=>?_
  have J:∀x a,From x a B->qBw x ((a+(k+q+1):Nat):Int) ((a+r.1:Nat):Int) r.2=some (((a+r.1:Nat):Int)+1,m.isNone):=λx a h=>by obtain hc:=h.cut (i:=r.1+1) (t:=k+q+1-(r.1+1)) (by lia);rw[i7 a,dT (by lia)]at hc;unfold qBw;rw[d3 T,show((a+r.1:Nat):Int)+1=((a+(r.1+1):Nat):Int)from rfl,hc,m1];rfl
  by_cases O:m.isNone=true
  .refine⟨⟨(B.take (r.1+1)).toArray⟩,(inB _).1,(inB _).2,λx a h=>bz (u x a h) λa1 a2 I N=>?_⟩;rw[wK a1 a2 I (J x a h) (d3 O)];have:=h.cut (i:=0) (t:=r.1+1) (v0 _);exact g0 some this
  .refine⟨⟨(B.take (k+((B.drop k).takeWhile λc=>!b3 c).length)).toArray⟩,(inB _).1,(inB _).2,λx a h=>bz (u x a h) λa1 a2 I N=>?_⟩;rw[wK a1 a2 I (J x a h) ((b6 O).trans N),L x a h]
 .refine⟨⟨(B.take (k+((B.drop k).takeWhile λc=>!b3 c).length)).toArray⟩,(inB _).1,(inB _).2,λx a h=>bz (u x a h) λa1 a2 I N=>?_⟩;rw[wK a1 a2 I (b6 T) ((zX1).trans N),L x a h]
end
structure Ans where
 cl:Bool
 y:Str
 r2:R2
 ex:Option Int
def zEp(y:Str):Int:=(((expandT (Int.toNat 8) y).length:Nat):Int)
structure Answers(x:Str)(R:Ln)(c:Nat)(A:Ans):Prop where
 st:xF x R=some A.r2
 cl:∃m,reAt closeC x [A.r2.a]=some m/\m.isSome=A.cl
 ba:qLh x A.r2.a A.r2.b=some A.y
 br:c=4->∃o pre more,A.r2.s.stack.getLast?=some o/\kZ x o=some (pre,more)/\tabOk pre 8=true/\A.ex=some (zEp pre+if more then 4 else 0)
 bs:c=1->∃y,uU x A.r2.a=some y/\tabOk y 8=true/\A.ex=some (zEp y+1)
 no:c≠4->c≠1->A.ex=none
noncomputable def z00:Z:=⟨[],[(0,0)],""⟩
def upR(a b e:Nat)(z:Z):R2:=⟨(a:Nat),(b:Nat),upZ a e z⟩
theorem zGk{W:Ln}(D:B.length<300)(T:NlL B)(L:∀d∈B,d<128)(O:W=B.take k)(h4:c=4->∃o,(mm 1000 0 W z00).stack.getLast?=some o/\o<B.length)(h1:c=1->B≠[]):∃ex,∀(x:Str)(R:Ln)(a e:Nat),From x a B->xF x R=some (upR a (a+W.length) e (mm 1000 0 W z00))->Answers x R c ⟨wJ B,⟨(W.takeWhile blk).toArray⟩,upR a (a+W.length) e (mm 1000 0 W z00),ex⟩:=by
 have S:W.length<=B.length:=by rw[O,w9];exact gB _ _
 have V:∀d∈W,d<128:=λd hd=>L d (gO (O▸hd));have u:∀(x:Str)(a e:Nat),From x a B->(∃m,reAt closeC x [((a:Nat):Int)]=some m/\m.isSome=wJ B)/\qLh x ((a:Nat):Int) ((a+W.length:Nat):Int)=some ⟨(W.takeWhile blk).toArray⟩:=λx a e h=>by
  obtain hA:=yP h.eq h.le;refine ae (qKz hA h.small) λm m1 m2=>⟨⟨m,(qQg (q:=x.length) rfl (bk h.small) h.le (.inl rfl)).trans m1,m2⟩,?_⟩;have U:=At.pre hA S;have e:B.take W.length=W:=by
   rw[O,w9];by_cases q:k<=B.length
   .rw[bQ q]
   .rw[dX (gG q),eI (i5 _),eI (gG q)]
  rw[e]at U;exact qRl h.small U V
 by_cases J:c=4
 .refine ae (h4 J) λo o1 o2=>bi (qUu D T o2) λpre F p1 p2 p3=>⟨some (zEp pre+if F then 4 else 0),λx R a e h I=>?_⟩;obtain⟨a1,a2⟩:=u x a e h;refine⟨I,a1,a2,λw=>⟨((a+o:Nat):Int),pre,F,?_,p3 x a h,qXj (b7 p2 (m9 D)) λd hd=>L d (p1 d hd),rfl⟩,λz=>d9 (z.symm.trans J) pi,λz=>d9 J z⟩;show(upS a (mm 1000 0 W z00).stack).getLast?=_;unfold upS;rw[nV,o1];rfl
 by_cases N:c=1
 .refine bh (qVv D T (h1 N) L) λy p1 p2 p3=>⟨some (zEp y+1),λx R a e h I=>?_⟩;obtain⟨a1,a2⟩:=u x a e h;exact⟨I,a1,a2,λz=>d9 z J,λw=>⟨y,p3 x a h,qXj (b7 p2 (m9 D)) λd hd=>L d (p1 d hd),rfl⟩,λw z=>d9 N z⟩
 .refine⟨none,λx R a e h I=>?_⟩;obtain⟨a1,a2⟩:=u x a e h;exact⟨I,a1,a2,λz=>d9 z J,λz=>d9 z N,λw w=>rfl⟩
section
variable{x:Str}{l:Ln}{M:Mk}{R:Ln}{c:Nat}
theorem qVl(u:NlL l):dropR l (l.count 10)=[]:=eX λz=>by
 obtain h1:=zN (i5 (l.count 10))
 have:=List.count_pos_iff.mpr ((u.suffix (qL l _)).mem z)
 simp_all
theorem qSj(u:NlL l):takeR l (l.count 10)=l:=by have:=qM l (l.count 10);rw[qVl u,eF]at this;exact this
theorem Tell.open_(h:Tell l M R c)(hc:c≠0):∃j,lastG l R (R.length-1)=some j/\j+1=R.length-1/\R.getD (j+1) 0=l.count 10/\R.getD j 0∈M.gl:=by
 obtain⟨_,e,J⟩:=h.rows.resolve_left λz=>hc z.1;obtain⟨_,_,u,I⟩:=h.head;obtain hl:R.length-1=M.gl.length:=by rw[e,g8];rfl
 have D:M.gl.length=u.length+1:=by rw[I];rfl
 have F:R.getD u.length 0∈M.gl/\M.gl.getLast?=some (R.getD u.length 0):=by
  have h1:u.length<M.gl.length:=by simp[D]
  rw[(by
   rw[r8,e,iB h1,u8 h1];rfl:R.getD u.length 0=M.gl[u.length])]
  refine⟨iP h1,?_⟩;rw[eE,D,gI,u8 h1]
 refine⟨u.length,?_,by simp[hl,D],?_,F.1⟩
 .rw[hl,D];show(if junkE (dropR l (R.getD u.length 0))then lastG l R u.length else some u.length)=_;rw[b6 λz=>?_];have:=uV h.re.fine.asc (h.junk F.1 z) F.2;exact d9 this (Nat.not_succ_le_self _)
 .rw[<- D,r8,e,dG (i5 _),gU];rfl
theorem Tell.lev(h:Tell l M R c)(hc:c=4):qPf M/\0<M.level:=by
 obtain he:=h.en;obtain ho:=h.re.ok;unfold uY at ho;unfold ends at he;rw[d3 (decide_eq_decide.mpr ho)]at he;obtain h1:(if M.cont≠2/\M.cont≠3/\0<M.level then 4 else M.cont)=c:=g0 Prod.snd (b5 he);by_cases q:M.cont≠2/\M.cont≠3/\0<M.level
 .exact⟨⟨q.1,q.2.1⟩,q.2.2⟩
 .rw[b6 q]at h1;have:=h.re.ct;lia
theorem qFr(u:x.cps.toList=l)(hs:x.length<300)(F:∀d∈l,d<128)(D:r<=l.count 10):From x (ofs l r) (dropR l r):=by obtain⟨p1,p2⟩:=yI (r:=r) u;refine⟨hs,p1,p2,?_,λd hd=>F d ((qL l r).mem hd)⟩;rw[u,qJj];exact(zW l r D).1
theorem qQj(O:x.cps.toList=l)(hs:x.length<300)(h:Tell l M R c)(T:∀d∈l,d<128)(L:lastG l R (R.length-1)=some j):∃k,k<=(dropR l (R.getD j 0)).length/\(dropR l (R.getD j 0)).take k=takeR (dropR l (R.getD j 0)) (R.getD (j+1) 0-R.getD j 0) /\
  (c=4->∃o,(mm 1000 0 (takeR (dropR l (R.getD j 0)) (R.getD (j+1) 0-R.getD j 0)) z00).stack.getLast?=some o/\o<(dropR l (R.getD j 0)).length)/\(c=1->dropR l (R.getD j 0)≠[])/\ofs l (R.getD (j+1) 0)=ofs l (R.getD j 0)+(takeR (dropR l (R.getD j 0)) (R.getD (j+1) 0-R.getD j 0)).length:=by
 obtain hx':l.length=x.length:=by rw[<- O,h9];rfl
 obtain⟨I,Y⟩:=kQ L;have u:=h.lt (s9 j) (mE I);obtain hb:=h.le (wF (R:=R) (i:=j+1) (mE I));have F:NlL (dropR l (R.getD j 0)):=h.nl.suffix (qL l _);refine⟨ofs (dropR l (R.getD j 0)) (R.getD (j+1) 0-R.getD j 0),qCw _ _,qJj _ _,λhc=>?_,λq=>(λz=>by
  have:=zN (l:=l) (r:=R.getD j 0) (b7 (m9 u) hb)
  rw[z]at this
  exact lh u hb this),?_⟩
 .obtain⟨X,e1,e2,J,S⟩:=h.open_ (by rw[hc];decide);rw[L]at e1;subst e1;have V:takeR (dropR l (R.getD j 0)) (R.getD (j+1) 0-R.getD j 0)=dropR l (R.getD j 0):=by rw[(by rw[J];exact gN (Nat.eq_sub_of_add_eq (zN (l:=l) (r:=R.getD j 0) (J▸m9 u))):R.getD (j+1) 0-R.getD j 0=(dropR l (R.getD j 0)).count 10)];exact qSj F
  rw[V];refine bw (h.cut S) λM0 R0 G' t f1 f2 q=>?_;obtain⟨U,s2⟩:=h.lev hc;have D:∀d∈dropR l (R.getD j 0),d<128:=λd hd=>T d ((qL l _).mem hd);obtain hk:=lock (M:=M0) (by unfold qPf;rw[f2];exact U) 1000 0 (dropR l (R.getD j 0)) z00 m00 (li hs hx' ((qL l (R.getD j 0)).length_le)) F D t.ma rfl;rw[f1]at hk;obtain⟨p1,p2⟩:=yI (r:=R.getD j 0) O;obtain⟨_,_,N⟩:=qQf (a:=ofs l (R.getD j 0)) hs (yP p2 p1) F D;obtain hne:(mm 1000 0 (dropR l (R.getD j 0)) z00).stack≠[]:=λz=>by rw[z]at hk;exact d9 hk (n3 s2)
  exact⟨_,r5 hne,N _ (oQ hne)⟩
 .have:=wT l (R.getD j 0) (R.getD (j+1) 0-R.getD j 0);rw[dT (m9 u)]at this;exact this
end
noncomputable def junkA:Ans:=⟨false,"",⟨0,0,⟨0,[],[(0,0)],""⟩⟩,none⟩
structure Moved(s:Nat)(A A':Ans):Prop where
 cl:A.cl=A'.cl
 y:A.y=A'.y
 ex:A.ex=A'.ex
 last:A.r2.s.last=A'.r2.s.last
 a:A.r2.a=A'.r2.a+(s:Nat)
 b:A.r2.b=A'.r2.b+(s:Nat)
 brk:A.r2.s.brk=A'.r2.s.brk.map λb=>(b.1+((s:Nat):Int),b.2)
section
variable{x:Str}{l:Ln}{M:Mk}{R:Ln}{c:Nat}
theorem qQt(h:Tell l M R c):R.getD (R.length-1) 0=l.count 10/\0<R.length:=by obtain h1:=h.last;refine ae h.head λt u q=>?_;rw[eE]at h1;exact⟨by rw[r8,h1];rfl,by rw[u];exact eQ _⟩
theorem qDf(F:x.cps.toList=l)(hs:x.length<300)(h:Tell l M R c)(J:∀d∈l,d<128)(I:lastG l R (R.length-1)=none):c=0/\Answers x R c junkA:=by
 obtain⟨hc,D⟩:=h.rows_junk λg hg u=>by obtain⟨i,hi,rfl⟩:=List.getElem_of_mem hg;rw[<- (by rw[r8,u8 hi];rfl:R.getD i 0=R[i])]at u |-;refine qNp I i (fB (fF hi) λz=>?_);rw[z,((qQt h).1)]at u;exact fP _ u
 refine⟨hc,(qCc F hs h J).2 I,ae (qKz (yP (by rw[lY];exact F) (v0 _):Re.At x.cps x.length 0 l) hs) λm m1 m2=>⟨m,(qQg (q:=x.length) rfl (bk hs) (v0 _) (.inl rfl)).trans m1,m2.trans (qOm _ (i5 _) h.nl D)⟩,qRl (a:=0) (b:=0) (l:=[]) hs ⟨rfl,i5 _,v0 _⟩ (λw z=>nomatch z),λz=>?_,λz=>?_,λw w=>rfl⟩
 .rw[hc]at z;cases z
 .rw[hc]at z;cases z
theorem jO{A R0:Ln}(h:i<R0.length):(A++R0.map (g + ·)).getD (A.length+i) 0=g+R0.getD i 0:=by rw[r8,dG (n5 _ _),w7,mR,qAi h];rfl
theorem qFi{R0:Ln}:∀i,i<=R0.length->lastG l (G'++R0.map (g + ·)) (G'.length+i)=(lastG (dropR l g) R0 i).elim (lastG l (G'++R0.map (g + ·)) G'.length) λj=>some (G'.length+j):=by
 intro D;induction D with
 |zero=>exactλz=>rfl
 |succ i u =>
  intro hi;show(if junkE (dropR l ((G'++R0.map (g + ·)).getD (G'.length+i) 0))then lastG l (G'++R0.map (g + ·)) (G'.length+i)else some (G'.length+i))=(if junkE (dropR (dropR l g) (R0.getD i 0))then lastG (dropR l g) R0 i else some i).elim _ _;rw[jO hi,kM];by_cases q:junkE (dropR (dropR l g) (R0.getD i 0))=true
  .rw[d3 q,d3 q];exact u (m4 hi)
  .rw[b6 q,b6 q];rfl
theorem zMq(D:a<b)(u:b<=l.count 10):ofs l a<ofs l b:=by
 obtain⟨k,rfl⟩:∃k,b=a+k:=⟨b-a,eh D⟩
 rw[wT];have:=ofs_pos (l:=dropR l a) (r:=k) (dl u (zN (l:=l) (r:=a) (dP u))) (by simp_all);simp[this]
theorem qRx(h:a=s+u)(l:List (Nat×Nat)):upB a l=(upB u l).map λb=>(b.1+((s:Nat):Int),b.2):=by unfold upB;rw[iL];refine mP λb q=>?_;rw[h];congr 1;simp +arith
theorem zHi(X:x.cps.toList=l)(hs:x.length<300)(h:Tell l M R c)(S:∀d∈l,d<128):∃A a,Answers x R c A/\A.r2.a=((a:Nat):Int)/\∀(g:Nat)(I:Str),g∈M.gl->I.cps.toList=dropR l g ->
  ∃M0 R0 G' A',Tell (dropR l g) M0 R0 c/\R=G'++R0.map (g + ·)/\Answers I R0 c A'/\((ofs l g<=a/\Moved (ofs l g) A A')\/(a<ofs l g/\A'=junkA/\c=0)):=by
 have Z:l.length=x.length:=by rw[<- X,h9];rfl
 have small:∀(g:Nat)(I:Str),I.cps.toList=dropR l g->I.length<300/\∀d∈dropR l g,d<128:=λg I e=>by refine⟨?_,λd hd=>S d ((qL l g).mem hd)⟩;obtain h1:=g0 List.length e;rw[h9]at h1;exact lj hs Z h1 ((qL l g).length_le) rfl
 have len:∀{G' R0:Ln}{g:Nat}{M0:Mk},Tell (dropR l g) M0 R0 c->R=G'++R0.map (g + ·)->R.length-1=G'.length+(R0.length-1)/\0<R0.length:=λt e=>by obtain h1:=(qQt t).2;refine⟨?_,h1⟩;rw[e,g8,m8];exact hH h1 _
 cases N:lastG l R (R.length-1)with
 |none =>
  obtain⟨hc,hA⟩:=qDf X hs h S N;refine⟨junkA,0,hA,rfl,λg I hg e=>dh (h.cut hg) λM0 R0 G' t z z z e2=>?_⟩;obtain⟨T,s2⟩:=small g I e;obtain⟨l1,l2⟩:=len t e2;refine⟨M0,R0,G',junkA,t,e2,(qDf e T t s2 (by
   rw[l1,e2,qFi _ (gH _ _)]at N
   cases q:lastG (dropR l g) R0 (R0.length-1)with
   |none=>rfl
   |some j=>rw[q]at N;cases N)).2,?_⟩
  by_cases hz:ofs l g=0
  .refine .inl ⟨v6 hz,?_⟩;rw[hz];exact⟨rfl,rfl,rfl,rfl,rfl,rfl,rfl⟩
  .exact .inr ⟨r6 hz,rfl,hc⟩
 |some j =>
  obtain⟨Y,j2⟩:=kQ N;refine fq (qQj X hs h S N) λk k1 k2 k3 k4 k5=>bf ((qCc X hs h S).1 j N) λe he=>bf (zGk (k:=k) (lk hs Z ((qL l (R.getD j 0)).length_le)) (h.nl.suffix (qL l (R.getD j 0))) (λd hd=>S d ((qL l _).mem hd)) k2.symm k3 k4) λex F=>?_;rw[k5]at he;refine⟨_,ofs l (R.getD j 0),F x R _ e (qFr X hs S (h.le (wF (R:=R) (i:=j) (b7 Y (gH _ 1))))) he,rfl,λg I hg O=>dh (h.cut hg) λM0 R0 G' t z z z e2=>?_⟩;obtain⟨T,s2⟩:=small g I O;obtain⟨l1,l2⟩:=len t e2;have L:=N;rw[l1,e2,qFi _ (gH _ _)]at L;cases J:lastG (dropR l g) R0 (R0.length-1)with
  |none =>
   obtain⟨hc,a3⟩:=qDf O T t s2 J;refine⟨M0,R0,G',junkA,t,e2,a3,.inr ⟨?_,rfl,hc⟩⟩;rw[J]at L;refine ae t.head λu hu z=>?_;obtain h1:=h.lt ((kQ L).1) (by rw[e2,g8,m8];simp[l2]);rw[(by
    have:=jO (A:=G') (g:=g) (i:=0) l2
    rw[oJ,<- e2,hu]at this
    exact this:R.getD G'.length 0=g)]at h1
   exact zMq h1 (h.lno▸h.re.fine.up g hg)
  |some D =>
   rw[J]at L;obtain⟨b1,b2⟩:=kQ J;have U:j=G'.length+D:=(b5 L).symm;have r1:R.getD j 0=g+R0.getD D 0:=by have:=jO (A:=G') (g:=g) (i:=D) (R0:=R0) (fO (dj Y l1 U));rw[<- e2,<- U]at this;exact this
   refine fq (qQj O T t s2 J) λz z z z z a2=>bf ((qCc O T t s2).1 D J) λe' V=>?_;rw[a2]at V;obtain eB:dropR l (R.getD j 0)=dropR (dropR l g) (R0.getD D 0):=by rw[r1,kM]
   obtain ea:ofs l (R.getD j 0)=ofs l g+ofs (dropR l g) (R0.getD D 0):=by rw[r1,wT]
   obtain hF:=qFr O T s2 (t.le (wF (R:=R0) (i:=D) (fO (dj Y l1 U))));rw[<- eB]at hF
   rw[<- eB,<- (by rw[r1,(by
    have:=jO (A:=G') (g:=g) (i:=D+1) (R0:=R0) (dj Y l1 U)
    rw[<- e2,<- i7,<- U]at this;exact this:R.getD (j+1) 0=g+R0.getD (D+1) 0)];exact Nat.add_sub_add_left _ _ _:R.getD (j+1) 0-R.getD j 0=R0.getD (D+1) 0-R0.getD D 0)]at V
   refine⟨M0,R0,G',_,t,e2,F I R0 _ e' hF V,.inl ⟨?_,rfl,rfl,rfl,rfl,?_,?_,qRx ea _⟩⟩
   .rw[ea];exact n5 _ _
   .rw[ea];exact g0 Nat.cast (m7 _ _)
   .show((ofs l (R.getD j 0)+_:Nat):Int)=((ofs (dropR l g) (R0.getD D 0)+_:Nat):Int)+((ofs l g:Nat):Int)
    rw[ea];simp +arith
end
end Mine.Lake.L09
namespace Mine.Lake.L09
open PySem PySem.W PyProof.Rows Mine.Lake Mine.Lake.Rp Mine.Lake.Re MineTop
section
variable{k:Nat}{H:Hp}{σ:St}{H':Hp}
theorem yE{v:V}{all:List V}{f:V->St->Rs (Option V)}{g:V->Option V}{H:Hp}(hi:itsV H v=some all):∀{l:List V}{σ:St},σ.h=H->(∀y∈l,∀σ:St,σ.h=H->∃σ',f y σ=.ok (g y) σ'/\σ'.h=H)->∃σ',turns v all f l σ=.ok (l.filterMap g) σ'/\σ'.h=H
 | [],σ,hσ,_=>⟨σ,by rw[qBl,d3 (by rw[hσ];exact hi)];rfl,hσ⟩
 |y::r,σ,hσ,h=>by
  refine ae (h y (.head _) σ hσ) λσ1 e1 h1=>ae (yE hi (l:=r) h1 λz D=>h z (.tail _ D)) λu e2 h2=>⟨u,?_,h2⟩
  simp only[qBm]
  rw[d3 (by rw[hσ];exact hi),e1]
  simp only[e2]
  simp only[List.filterMap_cons]
  cases g y <;> rfl
theorem qWs{cx:Cx}{cond:X}(g:V->Option V)(hi:ev cx it σ=.ok u σ)(F:itsV σ.h u=some xs)(hg:∀y∈xs,(ev cx cond ⟨σ.h,[(x,y)],σ.e⟩).bind (λb aD=>qAw b aD (ev cx elt))=.ok (g y) ⟨σ.h,[(x,y)],σ.e⟩)(I:(xs.filterMap g).length<=j0):ev cx (.comp elt x it cond) σ=.ok (.list (xs.filterMap g)) σ:=by
 obtain⟨D,e2,h2⟩:=yE (f:=λv a7=>(ev cx cond { a7 with l:=[(x,v)],e:=σ.e }).bind λb aD=>qAw b aD (ev cx elt)) (g:=g) F (l:=xs) (σ:=σ) rfl (λy J σ' L=>⟨⟨σ.h,[(x,y)],σ.e⟩,by
  have:({ σ' with l:=[(x,y)],e:=σ.e }:St)=⟨σ.h,[(x,y)],σ.e⟩:=by rw[<- L]
  rw[this];exact hg y J,rfl⟩)
 rw[zCf,Rs.bind_ok hi,F];show(turns u xs _ xs σ).bind _=_;rw[e2];show fits _ (Rs.ok _ { σ with h:=D.h })=_;unfold fits;rw[d3 I,h2]
theorem qGn{cx:Cx}(g:V->V)(hi:ev cx it σ=.ok u σ)(F:itsV σ.h u=some xs)(hg:∀y∈xs,ev cx elt ⟨σ.h,[(x,y)],σ.e⟩=.ok (g y) ⟨σ.h,[(x,y)],σ.e⟩)(D:xs.length<=j0):ev cx (.comp elt x it (.bool true)) σ=.ok (.list (xs.map g)) σ:=by
 obtain h:=qWs (elt:=elt) (cond:=.bool true) (λy=>some (g y)) hi F (λy I=>by
  show(ev cx elt _).bind _=_
  rw[hg y I];rfl) (by rw[lT];rw[m8];exact D)
 rw[lT]at h;exact h
noncomputable def fs2(iw tw:Int):Flds:=[("indentwidth",.int iw),("tabwidth",.int tw)]
theorem fs2_I:FsI (fs2 iw tw) iw tw:=⟨⟨2,i5 _,by decide,by show(["indentwidth","tabwidth"]:List Str)=_;decide +kernel⟩,rfl,rfl⟩
theorem zBl(u:PO H k d []):∃σ',zU rows09 (T pp n) 172 [.ref k,.int iw,.int tw] H=.ok .none σ'/\σ'.h=hput H d (.dict (fs2 iw tw)):=by
 obtain main:∀σ:St,σ.l=(["self","indentwidth","tabwidth"]:List Str).zip [.ref k,.int iw,.int tw]->σ.h=H->Gd (ex qNw (T pp n) σ) λf σ'=>f=.next/\σ'.h=hput H d (.dict (fs2 iw tw)):=by
  intro σ D h4;obtain h1:σ.l.lookup ("self":Str)=some (.ref k):=by rw[D];rfl
  rw[<- h4]at u ⊢;exact qG (xI (qB (by rw[D];rfl)) (qB h1) (u.setA bT pi (v0 _)) (qG (xI (qB (by rw[D];rfl)) (qB h1) ((u.put (fs':=setF "indentwidth" (.int iw) [])).setA bT pi (by show 1<=100;decide)) (qF ⟨rfl,qKe⟩))))
 obtain⟨f,σ',e,rfl,e2⟩:=main (entry _ H) rfl rfl;exact⟨σ',wR (by rfl) rfl e rfl,e2⟩
theorem qJq:∃σ',(T pp (n+2)).app (.top (.ref 266)) [.int iw,.int tw] H=.ok (.ref (H.n+1)) σ'/\PO σ'.h (H.n+1) H.n (fs2 iw tw)/\σ'.n=H.n+2/\∀i,i<H.n->σ'.o i=H.o i:=by
 obtain h0:PO ((H.add (.dict [])).add (.inst 266 H.n)) (H.n+1) H.n []:=⟨d3 rfl,bc ((Nat.succ_ne_self _).symm) (ax rfl rfl),Nat.succ_ne_self _⟩
 refine ae (zBl (pp:=pp) (n:=n) (iw:=iw) (tw:=tw) h0) λσ' e1 e2=>⟨σ',?_,?_⟩
 .show zAo (G09 pp) (zU rows09 (T pp n) 172) (zU rows09 (T pp (n+1))) 266 [.int iw,.int tw] H=_;refine(d3 rfl).trans ?_;unfold makeV;rw[show(G09 pp).C=266 from rfl,e1]
 .rw[e2];refine⟨h0.put,rfl,λi hi=>?_⟩;rw[qX (n3 hi)];exact bc (n3 (dU hi)) (bc (n3 hi) rfl)
def Same(H H':Hp):Prop:=H.n<=H'.n/\∀i,i<H.n->H'.o i=H.o i
theorem Same.trans{H H' H'':Hp}(h:Same H H')(u:Same H' H''):Same H H'':=⟨b7 h.1 u.1,λi hi=>(u.2 i (g9 hi h.1)).trans (h.2 i hi)⟩
theorem Same.refl:Same H H:=⟨i5 _,λq q=>rfl⟩
theorem zEe(u:ev (T pp n).c f σ=.ok vf σ)(D:ev (T pp n).c a σ=.ok v σ)(h:(T pp n).app vf [v] σ.h=okH r σ.h):ev (T pp n).c (.call f (.cons a .nil)) σ=.ok r σ :=
 zJ (σ':={ h:=σ.h,l:=[] }) u (qE D rfl) h
theorem zJz(u:ev (T pp n).c a σ=.ok v σ)(h:qJs v σ.h=okH (.int i) σ.h):ev (T pp n).c (.call (.g "len") (.cons a .nil)) σ=.ok (.int i) σ :=
 zEe (qQ (qAg bT)) u (by rw[bT.bl,wL,h])
theorem zCo{xs:List α}:cut xs none (some (k:Int))=xs.take k:=by
 show(xs.drop 0).take (clipAt xs.length (k:Int)-0)=_;rw[uT,lY,rM];by_cases h:k<=xs.length
 .rw[bQ h]
 .rw[dX (gG h),eI (i5 _),eI (gG h)]
theorem zNu{xs:List α}:cut xs (some (k:Int)) none=xs.drop k:=by
 show(xs.drop (clipAt xs.length (k:Int))).take (xs.length-clipAt xs.length (k:Int))=_;rw[uT];by_cases h:k<=xs.length
 .rw[bQ h,eI (by rw[t3];exact i5 _)]
 .rw[dX (gG h),gU,pR,hP (gG h)]
theorem zLf{cx:Cx}(h:σ.e.lookup x=some c)(u:σ.o c=some (.cell (some v))):ev cx (.cv x) σ=.ok v σ:=by rw[zNp,h];show(match σ.o c with|some (.cell (some v))=>Rs.ok v σ|_=>.bad)=_;rw[u]
theorem qWo{cx:Cx}{x:Int}(u:ev cx a σ=.ok (.int x) σ)(D:ev cx b σ=.ok (.int y) σ)(h:y≠0):ev cx (.bin .Mod a b) σ=.ok (.int (x.fmod y)) σ:=yS u D (b6 h)
theorem qDp(u:0<b)(a:Int):∃k:Nat,k<b/\a.fmod b=(k:Int):=⟨(a.fmod b).toNat,by simp[u,(Int.fmod_lt_of_pos a (b:=(b:Int)) (by simp[u]))],Int.eq_natCast_toNat.mpr (Int.fmod_nonneg_of_pos a (b:=(b:Int)) (by simp[u]))⟩
theorem qDk{l:List Str}(hi:i<=1000)(h:l[i]?=some r):idxV H (.list (l.map .str)) (.int (i:Nat))=.ok (.str r):=
 vT (xs:=l.map V.str) (j:=i) rfl rfl (kS (by simp) (rO rfl rfl hi)) (jH (by rw[m8];exact(List.getElem?_eq_some_iff.mp h).1)) (by rw[mR,h];rfl)
theorem qRf{xs:List α}{a:α}:cut (xs++[a]) none (some (-1))=xs:=by
 show((xs++[a]).drop 0).take (clipAt (xs++[a]).length (-1)-0)=_;have:clipAt (xs++[a]).length (-1)=xs.length:=by unfold clipAt;rw[g8,v8,d3 pi];exact ji
 simp only[this,lY,rM,nK]
theorem zHd:strMeth "split"=some "str.split":= by rfl
theorem zAq:strMeth "join"=some "str.join":= by rfl
theorem qOy:bapp "str.split" [a,b] H=hY a b H:=rfl
theorem qGd:bapp "str.join" [a,b] H=qDg a b H:=rfl
theorem qXo:∀l:List Str,hX (l.map .str)=some l:=by
 intro D;induction D with
 |nil=>exact  rfl
 |cons a l u =>show(hX (l.map .str)).map (a::·)=_;rw[u];rfl
theorem zHm(h1:nF "" l=y)(h2:JoinOk "" l)(h3:wG y):qDg (.str "") (.list (l.map .str))=λH=>okH (.str y) H:=by subst h1;funext H;show(hX (l.map .str)).elim Rs.bad (λu=>if(JoinOk "" u&&wG (nF "" u))=true then okH (.str (nF "" u)) H else .bad)=_;rw[qXo];exact d3 (by rw[h2,h3];rfl)
theorem qYq:yF H (.str x) (.int i) .none=.ok (.str ⟨(cut x.cps.toList (some i) none).toArray⟩):=rfl
theorem vZ{cx:Cx}{x:V}(u:ev cx a σ=.ok x a0)(D:ev cx b a0=.ok (.list xs) a7):ev cx (.cons a b) σ=.ok (.list (x::xs)) a7:=by rw[qKm,Rs.bind_ok u,Rs.bind_ok D];rfl
theorem zEa{cx:Cx}(h:ev cx es σ=.ok (.list xs) a0)(u:xs.length<=j0):ev cx (.list es) σ=.ok (.list xs) a0:=by rw[qKl,Rs.bind_ok h];exact d3 u
set_option tactic.hygienic true in
theorem zNj(I:σ.l.lookup x=some u)(D:ev cx.c e σ=.ok v a0)(F:augV u v=.ok r)(h:Q .next (a0.set x r)):Gd (ex (.aug x e) cx σ) Q:=by refine⟨.next,_,?_,h⟩;rw[zIg,Rs.bind_ok (qB (cx:=cx.c) I),Rs.bind_ok D,F];rfl
theorem zHx{c:S}(I:σ.l.lookup x=some u)(D:ev cx.c e σ=.ok v a0)(F:augV u v=.ok r)(h:Gd (ex c cx (a0.set x r)) Q):Gd (ex (.seq (.aug x e) c) cx σ) Q:=qG (zNj I D F h)
theorem qQb(h:σ.e.lookup x=some c)(u:σ.o c=some (.cell o)):σ.setC x v=some { σ with h:=hput σ.h c (.cell (some v)) }:=by unfold St.setC;rw[h];show(if zBj (σ.o c)then _ else _)=_;rw[u];rfl
theorem qIz(F:f≠266/\(qIy f).isNone)(u:rows09.lookup f=some (sc,ps,b))(I:args.length=ps.length)(J:ex b (T pp n) (entryC sc (ps.zip args) H)=.ok D σ')(L:retR D σ'=.ok v σ'):(T pp (n+1)).app (.top (.ref f)) args H=.ok v σ':=by
 rw[vY F];unfold zU;rw[u];show runFn sc ps b (T pp n) args H=_;unfold runFn;rw[d3 I,Rs.bind_ok J,L]
theorem qHt{α:Type}{P:α->Bool}:∀l:List α,l.filterMap (λy=>if P y then some y else none)=l.filter P:=by
 intro D;induction D with
 |nil=>exact  rfl
 |cons a l u =>simp only[List.filterMap_cons,List.filter_cons,u];cases P a <;> rfl
theorem qWq{cx:Cx}{cond:X}(P:V->Bool)(hi:ev cx it σ=.ok u σ)(F:itsV σ.h u=some xs)(hg:∀y∈xs,ev cx cond ⟨σ.h,[(x,y)],σ.e⟩=.ok (.bool (P y)) ⟨σ.h,[(x,y)],σ.e⟩)(D:xs.length<=1000):ev cx (.comp (.v x) x it cond) σ=.ok (.list (xs.filter P)) σ:=by
 obtain h:=qWs (elt:=.v x) (cond:=cond) (λy=>if P y then some y else none) hi F (λy I=>by
  rw[hg y I]
  cases P y with
  |false=>rfl
  |true =>
   show(ev cx (.v x) ⟨σ.h,[(x,y)],σ.e⟩).bind _=_
   rw[qB (v:=y) (by show k8 x [(x,y)]=_;rw[k8,gE])];rfl) (b7 (List.length_filterMap_le ..) (b7 D pi))
 rw[qHt]at h;exact h
end
noncomputable def tx(l:Ln):Str:=⟨l.toArray⟩
theorem zKa(x:Str):tx x.cps.toList=x:=Str.eq_of rfl
theorem qGo{a b:Str}:a++b=tx (a.cps.toList++b.cps.toList):=Str.eq_of (by
 show(a.cps++b.cps).toList=_
 simp[tx])
theorem qNs(u:List Str):(nF "" u).cps.toList=(u.map (·.cps.toList)).flatten:=by
 rw[(by decide +kernel:("":Str)=⟨#[]⟩)];unfold nF Builtin.Str.glued;cases u with
 |nil=>rfl
 |cons x r=>dsimp only[List.drop,List.headD];rw[(by
  intro l
  induction l with
  |nil=>intro acc;simp
  |cons x r D=>intro acc;rw[pB,D];simp:∀(l:List Str)(acc:Array Nat),(l.foldl (λacc p=>acc++(⟨#[]⟩:Str).cps++p.cps) acc).toList=acc.toList++(l.map (·.cps.toList)).flatten)];simp
theorem qVb(l:List Str)(n:Nat):l.foldl (λa (x:Str)=>a+x.length+("":Str).length) n=n+(l.map (·.cps.toList)).flatten.length:=by
 induction l generalizing n with
 |nil=>rfl
 |cons x r u =>rw[pB,u,(by decide +kernel:("":Str).length=0),fX,nW,g8];have:x.cps.toList.length=x.length:=h9;exact ll this
theorem yT(h:∀c∈l,c<128)(u:l.length<=1000):small (tx l):=⟨h,by show l.toArray.size<=1000;rw[s8];exact u⟩
theorem zBw(h:small x):wG x:=by unfold wG;rw[uB h.1,oB];exact e9 (b7 h.2 pi)
def pieces(l:Ln):List (Ln):=(spl l).1::(spl l).2
def zI(l:Ln):List (Ln):=(pieces l).dropLast.map (·++[10])
theorem qFd(l:Ln):pieces (10::l)=[]::pieces l:=by obtain e:spl (10::l)=([],(spl l).1::(spl l).2):=d3 rfl;unfold pieces;rw[e]
theorem qJh(h:c≠10)(l:Ln):pieces (c::l)=(c::(spl l).1)::(spl l).2:=by obtain e:spl (c::l)=(c::(spl l).1,(spl l).2):=b6 h;unfold pieces;rw[e]
theorem qFc:∀l:Ln,(pieces l).length<=l.length+1/\∀p∈pieces l,p.length<=l.length/\∀c∈p,c∈l:=by
 intro J;induction J with
 |nil=>exact  ⟨i5 _,λp hp=>by rw[List.mem_singleton.mp hp];exact⟨i5 _,λq h=>nomatch h⟩⟩
 |cons c l D =>
  obtain⟨h1,h2⟩:=D;by_cases hc:c=10
  .subst hc;rw[qFd];refine⟨n9 h1,λp hp=>?_⟩;rcases List.mem_cons.mp hp with rfl|hp
   .exact⟨v0 _,λq h=>nomatch h⟩
   .exact⟨m3 (h2 p hp).1,λc hc=>.tail _ ((h2 p hp).2 c hc)⟩
  .rw[qJh hc];refine⟨m3 h1,λp hp=>?_⟩;rcases List.mem_cons.mp hp with rfl|hp
   .obtain⟨h3,h4⟩:=h2 _ (.head _);exact⟨n9 h3,λd hd=>(List.mem_cons.mp hd).elim (λz=>z ▸ .head _) λz=>.tail _ (h4 d z)⟩
   .obtain⟨h3,h4⟩:=h2 p (.tail _ hp);exact⟨m3 h3,λd hd=>.tail _ (h4 d hd)⟩theorem rows_take:∀(l:Ln)(r:Nat),NlL l->((zI l).take r).flatten=takeR l r
 | [],r,_=>by have:zI []=[]:=rfl;rw[this,mC];rfl
 |c::l,0,_=>rfl
 |c::l,r+1,hn=>by
  have u:=hn.suffix (n6 c l);by_cases hc:c=10
  .subst hc;rw[(by
    unfold zI
    rw[qFd];rfl:zI (10::l)=[10]::zI l),eR,nW,rows_take l r u];rfl
  .have F:=hn.one hc;have D:=rows_take l (r+1) u;have I:takeR (c::l) (r+1)=c::takeR l (r+1):=g0 (λz=>c::takeR l z) (b6 hc);rw[I,<- D];cases hs:(spl l).2 with
   |nil =>
    exfalso;have e:zI l=[]:=by unfold zI pieces;rw[hs];rfl
    rw[e,mC]at D;have h1:=(zW l 1 (List.count_pos_iff.mpr (u.mem F))).2;have h2:=rows_take l 1 u;rw[e,mC]at h2;rw[<- h2]at h1;cases h1
   |cons a b =>
    rw[(by
     unfold zI;rw[qJh hc,hs];rfl:zI (c::l)=((c::(spl l).1)++[10])::(a::b).dropLast.map (·++[10])),(by
     unfold zI pieces;rw[hs];rfl:zI l=((spl l).1++[10])::(a::b).dropLast.map (·++[10]))];rfl
open StrLaws PySem.Builtin PySem.Builtin.Str in
theorem qGv(h1:∀c∈l,c<128)(h2:l.length<=900):hY (.str (tx l)) (.str "\n") H=okH (.list (((pieces l).map tx).map .str)) H:=by
 obtain hs:=qXt (x:=tx l);rw[show(tx l).cps.toList=l from rfl]at hs;obtain e1:mV (tx l) ⟨#[10]⟩=(pieces l).map tx:=(by
   intro a b u
   subst u
   rw[iL]
   have:tx∘(λx:Str=>x.cps.toList)=_root_.id:=funext λx=>zKa x
   rw[this,nU]:∀(a:List Str)(b:List (Ln)),a.map (·.cps.toList)=b->a=b.map tx) _ _ hs
 obtain⟨p1,p2⟩:=qFc l;show(if vO (tx l) "\n"=true then okH (.list ((mV (tx l) "\n").map .str)) H else .bad)=_;rw[nlS];obtain hsz:j0=16777216:=by decide
 rw[d3 (by
  unfold vO
  rw[(by
  rw[(qNj (x:=tx l) (y:=[10]) pi),pD]
  obtain hp':=g0 List.length (qEs (tx l).cps.toList 0 0 rfl (i5 _) (v0 _) (x:=tx l))
  rw[m8,g5]at hp'
  exact hp':(partsBetween (tx l) (occurrences (tx l) ⟨#[10]⟩ 0 (tx l).length ((tx l).length+1)) (⟨#[10]⟩:Str).length).length=(pieces l).length),e1,m8]
  rw[i6,i6,i6]
  refine⟨⟨⟨rfl,e9 (ek h2 p1 hsz)⟩,e9 (ek h2 p1 hsz)⟩,?_⟩
  rw[lB]
  intro y F
  obtain⟨r,D,rfl⟩:=List.mem_map.mp F
  obtain⟨m1,m2⟩:=p2 r D
  exact zBw (yT (λc hc=>h1 c (m2 c hc)) (b7 m1 (bj h2)))),e1]
theorem qJw{ls:List (Ln)}(h:∀c∈ls.flatten,c<128)(u:ls.flatten.length<=900):qDg (.str "") (.list ((ls.map tx).map .str))=λH=>okH (.str (tx ls.flatten)) H:=by
 obtain e2:(ls.map tx).map (·.cps.toList)=ls:=by rw[iL];have:(λx:Str=>x.cps.toList)∘tx=_root_.id:=rfl;rw[this,nU]
 refine zHm (Str.eq_of ?_) ?_ (zBw (yT h (b7 u pi)))
 .rw[qNs,e2];rfl
 .unfold JoinOk;rw[List.foldl_toArray,qVb,e2];unfold iT;rw[fE,lF,lG];exact lm u
noncomputable def toks:List Str:=["def f:\n","\n","'","\"\"\"","(",")","\\\n","#","#x\n"," ","a\n","return\n","{\n","]","'''\n","= ","\t","\\"]
noncomputable def pres:List Str:=["a\n","","# b\n"]
noncomputable def tails:List Str:=["pass\n","\n","\\\n","#c\n","(\n"]
noncomputable def okS(l:Ln):Bool:=decide (l.length<=8)&&l.all (λc=>decide (c<128))
theorem zEm:∀t∈toks,okS t.cps.toList:=pw
theorem zGp:∀t∈pres,okS t.cps.toList:=pw
theorem qXi:∀t∈tails,(okS t.cps.toList&&(t.cps.toList.getLast?==some 10)):=pw
theorem qNi(h:okS l):l.length<=8/\∀c∈l,c<128:=by unfold okS at h;rw[i6,lB,n8]at h;exact⟨h.1,λc hc=>j6 (h.2 c hc)⟩
structure LawT(l:Ln):Prop where
 low:∀c∈l,c<128
 len:l.length<=100
 last:l.getLast?=some 10
theorem qEj:∀{u:List Str},(∀t∈u,t∈toks)->(∀c∈(u.map (·.cps.toList)).flatten,c<128)/\(u.map (·.cps.toList)).flatten.length<=8*u.length:=by
 intro I;induction I with
 |nil=>exactλq=>⟨λq h=>(nomatch h),i5 _⟩
 |cons t u D =>intro h;obtain⟨h1,h2⟩:=D λt F=>h t (.tail _ F);obtain⟨h3,h4⟩:=qNi (zEm t (h t (.head _)));simp only[fX,nW,g8,g5];exact⟨λc hc=>(List.mem_append.mp hc).elim (h4 c) (h1 c),lq h2 h3⟩
theorem zRz{u:List Str}(J:a∈pres)(D:b∈tails)(N:∀t∈u,t∈toks)(L:u.length<=10):LawT (a.cps.toList++((u.map (·.cps.toList)).flatten++b.cps.toList)):=by
 obtain⟨h1,h2⟩:=qNi (zGp a J);obtain h4:=qXi b D;rw[i6,w6]at h4;obtain⟨h5,I⟩:=qNi h4.1;obtain⟨O,F⟩:=qEj N;refine⟨λc hc=>?_,?_,?_⟩
 .rcases List.mem_append.mp hc with z|z
  .exact h2 c z
  .exact(List.mem_append.mp z).elim (O c) (I c)
 .rw[g8,g8];exact lr L h1 h5 F
 .rw[<- u3,mJ,h4.2];rfl
section
variable{pp:dQ}{n:Nat}{H:Hp}{σ:St}{ns:List Int}{k d j:Nat}{H':Hp}{fs:Flds}{x:Str}{iw tw:Int}{c:Nat}{gl:Ln}{r2:R2}{y:Str}{lv:Int}
theorem zQd:qOx H .FloorDiv (.int a) (.int 5)=.ok (.int (a.fdiv 5)):=by show(if(0:Int)<5/\(5:Int)<1000 then Ov.ok (V.int (a.fdiv 5))else .bad)=_;exact d3 pi
noncomputable def qIj(i:Int):Str:=toks.getD (i.fmod 18).toNat ""
theorem qPv(i:Int):∃k:Nat,i.fmod 18=(k:Int)/\toks[k]?=some (qIj i)/\k<18:=by refine ae (qDp (b:=18) pi i) λk h1 h2=>⟨k,h2,?_,h1⟩;have u:i.fmod 18=(k:Int):=h2;unfold qIj;rw[u,dH,r8,u8 (h1)];rfl
def zOu:V->V
 | .int i=>.str (qIj i)
 |v=>v
noncomputable def zKv:X:=.comp (.idx (.cv "tokens") (.bin .Mod "x" (.int 18))) "x" (.slc "script" .none (.int 10)) (.bool true)
noncomputable def zRx:X:=.call (.g "len") (qc "script")
theorem comp_is(h1:σ.l.lookup ("script":Str)=some (.list (ns.map .int)))(h2:σ.e.lookup ("tokens":Str)=some c)(h3:σ.o c=some (.cell (some (.list (toks.map .str))))):ev (T pp n).c zKv σ=.ok (.list (((ns.take 10).map qIj).map .str)) σ:=by
 obtain e2:=qGn (elt:=.idx (.cv "tokens") (.bin .Mod "x" (.int 18))) (x:="x") zOu (by
  refine jU (qB h1) (rfl) (rfl) ?_
  show Ov.ok (.list (cut (ns.map V.int) none (some ((10:Nat):Int))))=_
  rw[zCo,pZ]:ev (T pp n).c (.slc "script" .none (.int 10)) σ=.ok (.list ((ns.take 10).map .int)) σ) rfl (λv hv=>by
  refine ae (List.mem_map.mp hv) λi hi D=>?_;subst D
  refine bh (qPv i) λk F u I=>kC (zLf h2 h3) (qWo (qB rfl) (y:=18) rfl pi) ?_
  rw[F]
  exact qDk (b7 (m9 (List.getElem?_eq_some_iff.mp u).1) pi) u) (by rw[m8,w9];exact b7 (lE _ _) pi)
 rw[(by
  rw[iL,iL];rfl:((ns.take 10).map V.int).map zOu=((ns.take 10).map qIj).map .str)]at e2
 exact e2
theorem qRn{l:List Str}(hk:k<l.length):∃r,l[k]?=some r/\r∈l:=⟨_,u8 hk,iP _⟩
theorem qXg(hn:ns.length<=63):∃l σ',LawT l/\(T pp (n+1)).app (.top (.ref 275)) [.list (ns.map .int)] H=.ok (.str (tx l)) σ'/\Same H σ'.h:=by
 obtain main:∃l,LawT l/\Gd (ex qHg (T pp n) (entryC ltext_sc ((["script"]:List Str).zip [.list (ns.map .int)]) H)) λf σ'=>f=.ret (.str (tx l))/\Same H σ'.h:=by
  obtain h1:(entryC ltext_sc ((["script"]:List Str).zip [.list (ns.map .int)]) H).l.lookup ("script":Str)=some (.list (ns.map .int)):=by rfl
  have h2:(entryC ltext_sc ((["script"]:List Str).zip [.list (ns.map .int)]) H).h=H.add (.cell none):=by rfl
  obtain h3:(entryC ltext_sc ((["script"]:List Str).zip [.list (ns.map .int)]) H).e=[(("tokens":Str),H.n)]:=by rfl
  generalize entryC ltext_sc ((["script"]:List Str).zip [.list (ns.map .int)]) H=σ at h1 h2 h3 ⊢;have hc:σ.e.lookup ("tokens":Str)=some H.n:=by rw[h3];rfl
  refine ae (qDp (b:=3) pi ((ns.length:Int).fdiv 5)) λk1 L Z=>ae (qDp (b:=5) pi (ns.length:Int)) λN U X=>ae (qRn (l:=pres) L) λa a1 a2=>ae (qRn (l:=tails) U) λb b1 b2=>?_;have I:∀t∈(ns.take 10).map qIj,t∈toks:=λt I=>by refine ae (List.mem_map.mp I) λi q S=>?_;subst S;exact bh (qPv i) λk q N q=>pT N
  have D:((ns.take 10).map qIj).length<=10:=by rw[m8,w9];exact lE _ _
  obtain hT:=zRz a2 b2 I D;refine⟨_,hT,?_⟩;generalize a3:(ns.take 10).map qIj=ts at I D hT;obtain hlen:=hT.len;rw[g8,g8]at hlen;obtain⟨Y,O⟩:=qEj I;refine qG (zId (vF rfl pi:ev (T pp n).c (.list (.cons (.str "def f:\n") (.cons (.str "\n") (.cons (.str "'") (.cons (.str "\"\"\"") (.cons (.str "(") (.cons (.str ")") (.cons (.str "\\\n") (.cons (.str "#") (.cons (.str "#x\n") (.cons (.str " ") (.cons (.str "a\n") (.cons (.str "return\n") (.cons (.str "{\n") (.cons (.str "]") (.cons (.str "'''\n") (.cons (.str "= ") (.cons (.str "\t") (.cons (.str "\\") .nil))))))))))))))))))) σ=.ok (.list (toks.map .str)) σ) (qQb hc (by rw[h2];exact d3 rfl)) ?_);have u:({ σ with h:=hput σ.h H.n (.cell (some (.list (toks.map .str)))) }:St).l.lookup ("script":Str)=some (.list (ns.map .int)):=h1;have F:({ σ with h:=hput σ.h H.n (.cell (some (.list (toks.map .str)))) }:St).e.lookup ("tokens":Str)=some H.n:=hc;obtain g3:({ σ with h:=hput σ.h H.n (.cell (some (.list (toks.map .str)))) }:St).o H.n=some (.cell (some (.list (toks.map .str)))):=d3 rfl;obtain g4:Same H ({ σ with h:=hput σ.h H.n (.cell (some (.list (toks.map .str)))) }:St).h:=by
   refine⟨?_,λi hi=>?_⟩
   .rw[h2];exact eM _
   .refine(qX (n3 hi)).trans ?_;rw[h2];exact b6 (n3 hi)
  generalize({ σ with h:=hput σ.h H.n (.cell (some (.list (toks.map .str)))) }:St)=σ at u F g3 g4 ⊢;have J:∀{σ:St},σ.l.lookup ("script":Str)=some (.list (ns.map .int))->ev (T pp n).c zRx σ=.ok (.int (ns.length:Nat)) σ:=λh=>zJz (qB h) (by show okH (.int ((ns.map V.int).length:Nat)) _=_;rw[m8]);refine gd_sasg (v:=.str a) (kC (vF (xs:=pres.map .str) rfl pi) (qWo (yS (J u) rfl zQd) (y:=3) rfl pi) ?_) ?_
  .rw[show((ns.length:Int).fdiv 5).fmod 3=(k1:Int)from Z];exact qDk (bk L) a1
  obtain f1:=@qD σ "text" (.str a);obtain u:=@qA σ "text" "script" (.str a) _ pi u;obtain F:(σ.set "text" (.str a)).e.lookup ("tokens":Str)=some H.n:=F;obtain g3:(σ.set "text" (.str a)).o H.n=_:=g3;obtain g4:Same H (σ.set "text" (.str a)).h:=g4;generalize σ.set "text" (.str a)=σ at f1 u F g3 g4 ⊢;obtain hcp:=comp_is (pp:=pp) (n:=n) u F g3;rw[a3]at hcp;obtain hj:ev (T pp n).c (.m (.str "") "join" (.cons zKv .nil)) σ=.ok (.str (tx (ts.map (·.cps.toList)).flatten)) σ :=
   qR (σ':={ h:=σ.h,l:=[] }) (vo:=.str "") rfl (xX bT zAq) (qE hcp rfl) (by
    rw[bT.bl]
    show bapp "str.join" [.str "",.list (ts.map .str)] _=_
    rw[qGd,(by
   rw[iL (f:=λx:Str=>x.cps.toList)]
   have:tx∘(λx:Str=>x.cps.toList)=_root_.id:=funext λx=>zKa x
   rw[this,nU]:ts.map V.str=((ts.map (·.cps.toList)).map tx).map V.str),qJw Y (lu D O)];rfl)
  obtain hta:(tx (ts.map (·.cps.toList)).flatten).length=(ts.map (·.cps.toList)).flatten.length:=s8 ..;obtain hal:a.length=a.cps.toList.length:=Array.length_toList.symm;obtain hbl:b.length=b.cps.toList.length:=Array.length_toList.symm;refine zHx f1 hj (d3 (by rw[hta,hal,lG];exact lw hlen)) ?_;obtain f2:=@qD σ "text" (.str (a++tx (ts.map (·.cps.toList)).flatten));obtain u:=@qA σ "text" "script" (.str (a++tx (ts.map (·.cps.toList)).flatten)) _ pi u;obtain g4:Same H (σ.set "text" (.str (a++tx (ts.map (·.cps.toList)).flatten))).h:=g4;generalize σ.set "text" (.str (a++tx (ts.map (·.cps.toList)).flatten))=σ at f2 u g4 ⊢;refine qG (vJ (yS (y:=.str b) (qB f2) (kC (vF (xs:=tails.map .str) rfl pi) (qWo (J u) (y:=5) rfl pi) ?_) ?_) ⟨rfl,g4⟩)
  .rw[show(ns.length:Int).fmod 5=(N:Int)from X];exact qDk (b7 (m9 (List.getElem?_eq_some_iff.mp b1).1) pi) b1
  .rw[<- (by
   rw[qGo,qGo]
   show tx ((a.cps.toList++_)++b.cps.toList)=_
   rw[u3];rfl:(a++tx (ts.map (·.cps.toList)).flatten)++b=tx (a.cps.toList++((ts.map (·.cps.toList)).flatten++b.cps.toList)))]
   exact d3 (by rw[(by
   rw[qGo]
   show(List.toArray _).size=_
   rw[s8,g8];rfl:(a++tx (ts.map (·.cps.toList)).flatten).length=a.cps.toList.length+(ts.map (·.cps.toList)).flatten.length),hbl,lG];exact lx hlen)
 obtain⟨l,hl,f,σ',e,rfl,w⟩:=main;exact⟨l,σ',hl,qIz pi (by rfl) rfl e rfl,w⟩
theorem qWr(g:V->V)(hi:ev cx it σ=.ok u σ)(F:itsV σ.h u=some xs)(hg:∀v∈xs,∃l,qGa x y v=some l/\ev cx elt ⟨σ.h,l,σ.e⟩=.ok (g v) ⟨σ.h,l,σ.e⟩)(I:xs.length<=j0):ev cx (.comp2 elt x y it) σ=.ok (.list (xs.map g)) σ:=by
 obtain⟨D,e2,h2⟩:=yE (f:=λv a7=>(qGa x y v).elim Rs.bad λl=>(ev cx elt { a7 with l:=l,e:=σ.e }).bind λr aD=>.ok (some r) aD) (g:=λv=>some (g v)) F (l:=xs) (σ:=σ) rfl (λv hv σ' J=>by
  refine ae (hg v hv) λl h1 h3=>⟨⟨σ.h,l,σ.e⟩,?_,rfl⟩
  rw[h1]
  show(ev cx elt { σ' with l:=l,e:=σ.e }).bind _=_
  rw[(by rw[<- J]:({ σ' with l:=l,e:=σ.e }:St)=⟨σ.h,l,σ.e⟩),h3];rfl)
 rw[qVg,Rs.bind_ok hi,F];show(turns u xs _ xs σ).bind _=_;rw[e2];show fits _ (Rs.ok _ { σ with h:=D.h })=_;unfold fits;rw[lT,d3 (by rw[m8];exact I),h2]
theorem PO.in_(h:PO H k d fs)(hk:H'.o k=H.o k)(hd:H'.o d=H.o d):PO H' k d fs:=⟨hk.trans h.inst,hd.trans h.dict,h.ne⟩
theorem Ready.in_(h:Ready H k d fs iw tw x gl c)(u:H.n<=H'.n)(hs:∀i,i=k\/i=d->H'.o i=H.o i):Ready H' k d fs iw tw x gl c :=
 ⟨h.po.in_ (hs k (.inl rfl)) (hs d (.inr rfl)),g9 h.k u,g9 h.d u,h.fs,h.small,h.study,h.ne⟩
theorem Std.in_(h:Std H k d iw tw x gl c fs)(u:H.n<=H'.n)(hs:∀i,i<H.n->(∀es,H.o i=some (.dict es)->i=d)->H'.o i=H.o i):Std H' k d iw tw x gl c fs:=by
 refine ck h.st λj h1 h2 h3 h4=>⟨h.po.in_ (hs k h.k λes z=>?_) (hs d h.d λq q=>rfl),⟨j,h1,(hs j h4 λes z=>?_).trans h2,h3,g9 h4 u⟩,g9 h.k u,g9 h.d u⟩
 .replace z:=h.po.inst.symm.trans z;cases z
 .replace z:=h2.symm.trans z;cases z
theorem Told.in_(h:Told H k d iw tw x gl c r2 fs)(u:H.n<=H'.n)(hs:∀i,i<H.n->(∀es,H.o i=some (.dict es)->i=d)->H'.o i=H.o i):Told H' k d iw tw x gl c r2 fs:=by
 refine ck h.st λj h1 h2 h3 h4=>⟨h.po.in_ (hs k h.k λes z=>?_) (hs d h.d λq q=>rfl),⟨j,h1,(hs j h4 λes z=>?_).trans h2,h3,g9 h4 u⟩,g9 h.k u,g9 h.d u⟩
 .obtain z:=h.po.inst.symm.trans z;exact nomatch z
 .obtain z:=h2.symm.trans z;exact nomatch z
theorem Told.same(h:Told H k d iw tw x gl c r2 fs)(hs:Same H H'):Told H' k d iw tw x gl c r2 fs:=h.in_ hs.1 λi hi q=>hs.2 i hi
noncomputable def qVx(s:Int)(l:List (Int×Int)):List V:=l.map λb=>.tup [.int (b.1+s),.int b.2]
noncomputable def exL(o:Option Int):List V:=o.elim [] λi=>[.int i]
def toldL(c:Nat)(A:Ans)(s:Int):List V:=[.int (c:Nat),.bool A.cl,.str A.y,.str A.r2.s.last,.int (A.r2.a+s),.int (A.r2.b+s),.list (qVx s A.r2.s.brk)]
noncomputable def qYs(s:Int):V->V
 | .tup [.int a,.int b]=>.tup [.int (a+s),.int b]
 |v=>v
theorem qVw{s:Int}:(brkV l).map (qYs s)=qVx s l:=by refine List.map_map.trans ?_;rfl
theorem qJt{s:Int}{A:Ans}(h:Ready H k d fs 4 8 x gl c)(S:Answers x gl c A)(hb:A.r2.s.brk.length<=1000):∃σ' j,(T pp (n+4)).app (.top (.ref 280)) [.ref k,.int s] H=.ok (.ref j) σ'/\Kept H σ'.h d/\H.n<=j/\j<σ'.n/\σ'.o j=some (.list (toldL c A s++exL A.ex))/\∃fs',Told σ'.h k d 4 8 x gl c A.r2 fs':=by
 obtain main:Gd (ex qHi (T pp (n+3)) (entryC lall_sc ((["parser","start"]:List Str).zip [.ref k,.int s]) H)) λf σ'=>∃j,f=.ret (.ref j)/\Kept H σ'.h d/\H.n<=j/\j<σ'.n/\σ'.o j=some (.list (toldL c A s++exL A.ex))/\∃fs',Told σ'.h k d 4 8 x gl c A.r2 fs':=by
  have h1:(entryC lall_sc ((["parser","start"]:List Str).zip [.ref k,.int s]) H).l.lookup ("parser":Str)=some (.ref k):=by rfl
  obtain h2:(entryC lall_sc ((["parser","start"]:List Str).zip [.ref k,.int s]) H).h=H.add (.cell (some (.int s))):=by rfl
  obtain h3:(entryC lall_sc ((["parser","start"]:List Str).zip [.ref k,.int s]) H).e=[(("start":Str),H.n)]:=by rfl
  generalize entryC lall_sc ((["parser","start"]:List Str).zip [.ref k,.int s]) H=σ at h1 h2 h3 ⊢;have old:∀i,i<H.n->σ.o i=H.o i:=λi hi=>by rw[h2];exact b6 (n3 hi)
  obtain hcell:σ.o H.n=some (.cell (some (.int s))):=by rw[h2];exact d3 rfl
  have D:σ.n=H.n+1:=by rw[h2];rfl
  have hR:Ready σ.h k d fs 4 8 x gl c:=h.in_ (by rw[D];exact eM _) λi hi=>old i (hi.elim (λz=>z▸h.k) λz=>z▸h.d);have K0:Kept H σ.h d:=⟨by rw[D];exact eM _,λi hi q=>old i hi⟩
  obtain⟨σ1,a1,a2,au,a3⟩:=qKf (pp:=pp) (n:=n+1) hR;obtain L:=qR (σ:=σ) (qB (cx:=(T pp (n+3)).c) h1) (hR.po.get bT (hR.fs.kx.m pi) (m:="get_continuation_type") (a:=207) (by rfl)) (show ev (T pp (n+3)).c .nil σ=.ok (.list []) σ from rfl) a1;obtain⟨m,m1,m2⟩:=S.cl;obtain⟨jj,am,_⟩:=a3.st;obtain⟨u,b1,b2,fs2,b3⟩:=qOk (pp:=pp) (n:=n) a3 S.st m1;rw[m2]at b1;obtain c2:=qR (σ:={ σ with h:=σ1.h }) (qB (cx:=(T pp (n+3)).c) h1) (a3.po.get bT (am.kx.m pi) (m:="is_block_closer") (a:=256) (by rfl)) (show ev (T pp (n+3)).c .nil _=.ok (.list []) _ from rfl) b1;obtain hcell2:u.o H.n=some (.cell (some (.int s))):=(b2.same H.n (g9 (by rw[D];exact s9 _) a2.n) (dO h.d)).trans ((a2.same H.n (by rw[D];exact s9 _) (dO h.d)).trans hcell);have F:({ σ with h:=u.h }:St).l.lookup ("parser":Str)=some (.ref k):=h1;have s3:({ σ with h:=u.h }:St).e=[(("start":Str),H.n)]:=h3;have s4:({ σ with h:=u.h }:St).o H.n=some (.cell (some (.int s))):=hcell2;have s5:Told ({ σ with h:=u.h }:St).h k d 4 8 x gl c A.r2 fs2:=b3;obtain s6:Kept H ({ σ with h:=u.h }:St).h d:=(K0.trans a2).trans b2;obtain s7:H.n+1<=({ σ with h:=u.h }:St).n:=by have:=b7 a2.n b2.n;rw[D]at this;exact this
  have Y:ev (T pp (n+3)).c (.m "parser" "is_block_closer" .nil) { σ with h:=σ1.h }=.ok (.bool A.cl) { σ with h:=u.h }:=c2;obtain key:∀{aQ:St},Gd (ex (.own "told" (.list (.cons (.m "parser" "get_continuation_type" .nil) (.cons (.m "parser" "is_block_closer" .nil) (.cons (.m "parser" "get_base_indent_string" .nil) (.cons (.attr "parser" "lastch") (.cons (.bin .Add (.attr "parser" "stmt_start") (.cv "start")) (.cons (.bin .Add (.attr "parser" "stmt_end") (.cv "start")) (.cons (.comp2 (.tup (.cons (.bin .Add "place" (.cv "start")) (qc "depth"))) "place" "depth" (.m "parser" "get_last_stmt_bracketing" .nil)) .nil))))))))) (T pp (n+3)) σ) λf σ'=>f=.next/\σ'=((({ σ with h:=u.h }:St).add (.list (toldL c A s))).set "told" (.ref ({ σ with h:=u.h }:St).n)):=λ{_}=>by
   generalize({ σ with h:=u.h }:St)=τ at Y F s3 s4 s5 s6 s7 ⊢;obtain⟨j2,I,_⟩:=s5.st;have U:∀loc:List (Str×V),ev (T pp (n+3)).c (.cv "start") ⟨τ.h,loc,τ.e⟩=.ok (.int s) ⟨τ.h,loc,τ.e⟩:=λloc=>zLf (σ:=⟨τ.h,loc,τ.e⟩) (c:=H.n) (by rw[s3];rfl) s4;obtain⟨σ3,d1,d2⟩:=qWc (pp:=pp) (n:=n+1) s5 S.ba;obtain c3:=qR (σ:=τ) (qB (cx:=(T pp (n+3)).c) F) (s5.po.get bT (I.f2.kx.m pi) (m:="get_base_indent_string") (a:=242) (by rfl)) (show ev (T pp (n+3)).c .nil _=.ok (.list []) _ from rfl) d1;rw[d2]at c3;obtain⟨σ4,e1,e2⟩:=qVy (pp:=pp) (n:=n+1) s5;obtain c7:=qR (σ:=τ) (qB (cx:=(T pp (n+3)).c) F) (s5.po.get bT (I.f2.kx.m pi) (m:="get_last_stmt_bracketing") (a:=263) (by rfl)) (show ev (T pp (n+3)).c .nil _=.ok (.list []) _ from rfl) e1;rw[e2]at c7;obtain c8:=qWr (σ:=τ) (x:="place") (y:="depth") (elt:=.tup (.cons (.bin .Add "place" (.cv "start")) (qc "depth"))) (qYs s) c7 (xs:=brkV A.r2.s.brk) rfl (λv hv=>by
    obtain⟨b,hb,rfl⟩:=List.mem_map.mp hv
    exact⟨[("depth",.int b.2),("place",.int b.1)],rfl,qAo (qE (qO (qB (x:="place") rfl) (U _)) (qE (qB (x:="depth") rfl) rfl)) (by show 2<=j0;decide)⟩) (by unfold brkV;rw[m8];exact b7 hb pi)
   rw[qVw]at c8;refine qOd (xs:=toldL c A s) (a0:=τ) (zEa (vZ L (vZ Y (vZ c3 (vZ (qK (qB F) (s5.po.fld bT pi I.last rfl)) (vZ (qO (qK (qB (cx:=(T pp (n+3)).c) F) (s5.po.fld bT (f:="stmt_start") pi I.a rfl)) (U τ.l)) (vZ (qO (qK (qB (cx:=(T pp (n+3)).c) F) (s5.po.fld bT (f:="stmt_end") pi I.b rfl)) (U τ.l)) (vZ c8 rfl))))))) (by show 7<=j0;decide)) ⟨rfl,rfl⟩
  unfold qHi;refine zA ((key (aQ:=σ)).mono ?_);rintro f σ' ⟨rfl,rfl⟩;clear key L c2 Y a1 b1 hR a3 b3 hcell hcell2;generalize({ σ with h:=u.h }:St)=τ at F s3 s4 s5 s6 s7 ⊢;obtain t1:((τ.add (.list (toldL c A s))).set "told" (.ref τ.n)).l.lookup ("parser":Str)=some (.ref k):=zX2 F;obtain t2:=@qD (τ.add (.list (toldL c A s))) "told" (.ref τ.n);have J:((τ.add (.list (toldL c A s))).set "told" (.ref τ.n)).o τ.n=some (.list (toldL c A s)):=d3 rfl;obtain t0:Same τ.h ((τ.add (.list (toldL c A s))).set "told" (.ref τ.n)).h:=⟨eM _,λi hi=>b6 (n3 hi)⟩
  have O:Told ((τ.add (.list (toldL c A s))).set "told" (.ref τ.n)).h k d 4 8 x gl c A.r2 fs2:=s5.same t0;have t5:Kept H ((τ.add (.list (toldL c A s))).set "told" (.ref τ.n)).h d:=s6.trans ⟨t0.1,λi hi q=>t0.2 i hi⟩;obtain t6:((τ.add (.list (toldL c A s))).set "told" (.ref τ.n)).n=τ.n+1:=rfl;have t7:H.n<=τ.n:=m4 s7;generalize(τ.add (.list (toldL c A s))).set "told" (.ref τ.n)=σ at t0 t1 t2 J O t5 t6 ⊢;obtain t8:∀i,i<τ.n->σ.o i=τ.o i:=t0.2;generalize hj:τ.n=j at t2 J t6 t7 t8;have N:∀{σ:St}{e:List V},σ.l.lookup ("told":Str)=some (.ref j)->σ.o j=some (.list (toldL c A s++e))->ev (T pp (n+3)).c (.idx "told" (.int 0)) σ=.ok (.int (c:Nat)) σ:=λ{σ e} h1 h2 =>
   kC (qB h1) (show ev (T pp (n+3)).c (.int 0) σ=.ok (.int ((0:Nat):Int)) σ from rfl) (vT (xs:=toldL c A s++e) (j:=0) rfl (show asO (σ.o j)=_ by rw[h2];rfl) pi (jH (eQ _)) rfl)
  have app:∀{σ:St}{meth:Str}{v:Int},σ.l.lookup ("told":Str)=some (.ref j)->σ.o j=some (.list (toldL c A s))->ev (T pp (n+3)).c (.m "parser" meth .nil) σ=.ok (.int v) σ->Gd (ex (.seq (.expr (.m "told" "append" (qc (.m "parser" meth .nil)))) .nil) (T pp (n+3)) σ) λf σ'=>f=.next/\σ'={ σ with h:=hput σ.h j (.list (toldL c A s++[.int v])) }:=λ{σ meth v} h1 h2 h3 =>
   zC (qR (qB h1) (qKg bT h2 qAq) (qE h3 rfl) (by
    rw[bT.bl]
    show bapp "list.append" [.ref j,.int v] _=_
    rw[qBb,qDv h2 (by show 7<=2000;decide)];rfl)) (qF ⟨rfl,rfl⟩)
  have a8:∀{σ':St}{v:Int},A.ex=some v->σ'={ σ with h:=hput σ.h j (.list (toldL c A s++[.int v])) }->σ'.l.lookup ("told":Str)=some (.ref j)/\Kept H σ'.h d/\j<σ'.n/\σ'.o j=some (.list (toldL c A s++exL A.ex))/\Told σ'.h k d 4 8 x gl c A.r2 fs2:=λ{σ' v} e1 e2=>by
   subst e2;refine⟨t2,⟨t5.n,λi hi hd=>(qX (n3 (g9 hi t7))).trans (t5.same i hi hd)⟩,by show j<σ.n;rw[t6];exact s9 _,by rw[e1];exact vA,s5.same ⟨?_,λi hi=>?_⟩⟩
   .show τ.n<=σ.n;rw[hj,t6];exact eM _
   .have hi:i<j:=hj▸hi;exact(qX (n3 hi)).trans (t8 i hi)
  have X:A.ex=none->σ.o j=some (.list (toldL c A s++exL A.ex)):=λe=>by rw[e];exact J.trans (by rw[show exL none=[]from rfl,eF])
  have done:∀{σ':St},σ'.l.lookup ("told":Str)=some (.ref j)/\Kept H σ'.h d/\j<σ'.n/\σ'.o j=some (.list (toldL c A s++exL A.ex))/\Told σ'.h k d 4 8 x gl c A.r2 fs2->Gd (ex (.seq (.ret "told") .nil) (T pp (n+3)) σ') λf σ'=>∃j,f=.ret (.ref j)/\Kept H σ'.h d/\H.n<=j/\j<σ'.n/\σ'.o j=some (.list (toldL c A s++exL A.ex))/\∃fs',Told σ'.h k d 4 8 x gl c A.r2 fs':=λh =>
   qG (vJ (qB h.1) ⟨j,rfl,h.2.1,t7,h.2.2.1,h.2.2.2.1,fs2,h.2.2.2.2⟩)
  have g1:=xK (N (e:=[]) t2 (by rw[eF];exact J)) (qQ (zNg (bT (pp:=pp) (n:=n+3))));obtain⟨j4,a9,_⟩:=O.st;by_cases c4:c=4
  .obtain⟨o,pre,ap,q1,q2,q3,q4⟩:=S.br c4;clear X t8;subst c4;obtain⟨σ5,r1,Z⟩:=qKb (pp:=pp) (n:=n+1) O q1 q2 q3;have m1:=qR (σ:=σ) (qB (cx:=(T pp (n+3)).c) t1) (O.po.get bT (a9.f2.kx.m pi) (m:="compute_bracket_indent") (a:=221) (by rfl)) (show ev (T pp (n+3)).c .nil _=.ok (.list []) _ from rfl) r1;rw[Z]at m1;refine yC g1 (λq=>(app t2 J m1).mono ?_) λz=>d9 z pi;rintro f σ' ⟨rfl,e⟩;obtain⟨w1,w2⟩:=a8 q4 e;exact qN (t:=false) (xK (N (e:=exL A.ex) w1 w2.2.2.1) (qQ (zHs (bT (pp:=pp) (n:=n+3))))) (λz=>by cases z) λq=>done ⟨w1,w2⟩
  .refine qN (t:=false) (by rw[g1];exact g0 (λb=>Rs.ok (V.bool b) σ) (beq_eq_false_iff_ne.mpr λz=>c4 (ly z))) (λz=>by cases z) λq=>?_;have g2:=xK (N (e:=[]) t2 (by rw[eF];exact J)) (qQ (zHs (bT (pp:=pp) (n:=n+3))));by_cases L:c=1
   .obtain⟨y,q2,q3,q4⟩:=S.bs L;subst L;obtain⟨σ5,r1,Z⟩:=zJa (pp:=pp) (n:=n+1) O q2 q3;have m1:=qR (σ:=σ) (qB (cx:=(T pp (n+3)).c) t1) (O.po.get bT (a9.f2.kx.m pi) (m:="compute_backslash_indent") (a:=235) (by rfl)) (show ev (T pp (n+3)).c .nil _=.ok (.list []) _ from rfl) r1;rw[Z]at m1;refine yC g2 (λq=>(app t2 J m1).mono ?_) λz=>d9 z pi;rintro f σ' ⟨rfl,e⟩;exact done (a8 q4 e)
   .exact qN (t:=false) (by rw[g2];exact g0 (λb=>Rs.ok (V.bool b) σ) (beq_eq_false_iff_ne.mpr λz=>L (lz z))) (λz=>by cases z) λq=>done ⟨t2,t5,by rw[t6];exact s9 _,X (S.no c4 L),O⟩
 obtain⟨f,σ',e,j,rfl,w⟩:=main;exact⟨σ',j,qIz pi (by rfl) rfl e rfl,w⟩
theorem FsP.setCode(h:FsP fs iw tw x lv):FsP (setF "code" (.str y) fs) iw tw y lv :=
 ⟨(h.kx.set (i:=2) pi pi pw).less pi,(qC pi).trans h.iw,(qC pi).trans h.tw,qW,(qC pi).trans h.lev⟩
theorem FsS.setCode(h:FsS fs iw tw x lv j c):FsS (setF "code" (.str y) fs) iw tw y lv j c :=
 ⟨h.toFsP.setCode,(h.kx6.set (i:=2) pi pi pw).less pi,(qC pi).trans h.good,(qC pi).trans h.cont⟩
theorem qEv(hs:x.length<=900)(D:s<=x.length)(J:s≠0->x.cps.toList[s-1]?=some 10)(L:y.cps.toList=x.cps.toList.drop s)(F:PO H k d fs)(I:FsP fs iw tw x lv):∃σ',(T pp (n+1)).app (.top (.ref 193)) [.ref k,.int (s:Nat)] H=.ok .none σ'/\∃fs',σ'.h=hput H d (.dict fs')/\((fs'=fs/\y=x)\/fs'=setF "code" (.str y) fs):=by
 refine qAl (λH'=>∃fs',H'=hput H d (.dict fs')/\((fs'=fs/\y=x)\/fs'=setF "code" (.str y) fs)) pi (by rfl) rfl λσ u h3=>?_;have h1:σ.l.lookup ("self":Str)=some (.ref k):=by rw[u];rfl
 have h2:σ.l.lookup ("lo":Str)=some (.int (s:Nat)):=by rw[u];rfl
 subst h3;obtain ec:ev (T pp n).c (qe "code") σ=.ok (.str x) σ:=qK (qB h1) (F.fld bT pi I.code rfl);obtain e1:=xK (qB (cx:=(T pp n).c) h2) (show ev (T pp n).c (.int 0) σ=.ok (.int 0) σ from rfl);obtain e5:=qWp (qB (cx:=(T pp n).c) h2) (show ev (T pp n).c (.int 0) σ=.ok (.int 0) σ from rfl);by_cases u:s=0
 .rw[u]at e1 e5;refine qT (qGl (p:=true) (q:=true) e1 λq=>zT1 q) ?_;rw[show decide (((0:Nat):Int)>0)=false from rfl]at e5;exact qN (t:=false) e5 (λq=>by cases q) λz=>qF ⟨rfl,fs,(qAf F.dict).symm,.inl ⟨rfl,(Str.eq_of (by rw[L,u,lY]))⟩⟩
 .rw[(by simpa using u:(((s:Nat):Int)==0)=false)]at e1;refine qT (qGl (q:=true) e1 λz=>?_) ?_
  .rw[jW (kC ec (kB (qB h2) rfl) (qHp (H:=σ.h) (x:=x) (i:=((s:Nat):Int)-1) (j:=s-1) (kS (by exact mc) (by exact me hs D)) (by rw[show((s:Nat):Int)-1=((s-1:Nat):Int)by exact dz u];exact jH (by exact mf D u)) (by rw[<- aV];exact J u))) rfl,nlS];rfl
  .rw[e9 (by exact mh u)]at e5;exact qN e5 (λz=>qG (xI (by
    refine jU ec (qB h2) rfl ?_
    rw[qYq,zNu,<- L]) (qB h1) (F.setA bT pi I.kx.len) (qF (qF ⟨rfl,_,rfl,.inr rfl⟩)))) (λq=>zT1 q)
theorem FsP.lo(h:FsP fs iw tw x lv)(u:(fs'=fs/\y=x)\/fs'=setF "code" (.str y) fs):FsP fs' iw tw y lv:=by
 rcases u with⟨rfl,rfl⟩|rfl
 .exact h
 .exact h.setCode
theorem Std.lo{fs':Flds}(h:Std H k d iw tw x gl c fs)(u:(fs'=fs/\y=x)\/fs'=setF "code" (.str y) fs):Std (hput H d (.dict fs')) k d iw tw y gl c fs':=by
 refine ck h.st λj h1 h2 h3 h4=>⟨h.po.put,⟨j,?_,(qX h3).trans h2,h3,h4⟩,h.k,h.d⟩;clear h;rcases u with⟨rfl,rfl⟩|rfl
 .exact h1
 .exact h1.setCode
theorem qOb(h:Std H k d iw tw x gl c fs):∃σ',(T pp (n+2)).app (.top (.ref 207)) [.ref k] H=.ok (.int (c:Nat)) σ'/\σ'.h=H:=by
 refine ae h.st λj u q=>qAl (· = H) pi (by rfl) rfl λσ D h2=>?_;obtain h1:σ.l.lookup ("self":Str)=some (.ref k):=by rw[D];rfl
 refine ae (yY (pp:=pp) (n:=n) h) λa7 a1 a2=>?_;subst h2;refine zC (qR (qB h1) (h.po.get bT (u.kx.m pi) (by rfl)) (xs:=[]) rfl a1) ?_;rw[a2];exact qG (vJ (qK (qB h1) (h.po.fld bT pi u.cont rfl)) ⟨rfl,rfl⟩)
theorem zCn:∀(m:Nat)(v:V)(D:PyData),dat H m v=some D->gQ D D:=by
 intro J;induction J with
 |zero=>exactλq q h=>nomatch h
 |succ m L =>
  intro v D h;have all:∀(xs:List V)(u:List PyData),xs.mapM (dat H m)=some u->PyData.eqvAll u u=true:=by
   intro xs;induction xs with
   |nil=>intro u h;rw[(b5 h).symm];rfl
   |cons a xs I =>intro u h;rw[iF]at h;obtain⟨b,N,h⟩:=pz h;obtain⟨bs,F,h⟩:=pz h;subst h;rw[PyData.eqvAll,L a b N,I bs F];rfl
  cases v with
  |none=>subst h;rfl
  |bool b=>subst h;simp[gQ]
  |int i=>subst h;simp[gQ]
  |str x=>subst h;simp[gQ]
  |list xs =>obtain⟨u,h1,rfl⟩:=qb (h);rw[gQ];exact all _ _ h1
  |tup xs =>obtain⟨u,h1,rfl⟩:=qb (h);rw[gQ];exact all _ _ h1
  |ref k =>obtain⟨xs,_,h2⟩:=pz (h);obtain⟨u,h1,rfl⟩:=qb h2;rw[gQ];exact all _ _ h1
  |_=>cases h
theorem uG(u:dat H 8 a=some D)(F:dat H 8 b=some D):uS H .NotEq a b=.ok (.bool false):=by show zDb ((((dat H 8 a).bind λx=>(dat H 8 b).map λy=>gQ x y)).map (!·))=_;rw[u,F];show Ov.ok (.bool (!PyData.eqv D D))=_;rw[zCn 8 a D u];rfl
theorem zIv:∀{xs:List V},(∀v∈xs,∃d,dat H m v=some d)->∃u,xs.mapM (dat H m)=some u:=by
 intro F;induction F with
 |nil=>exactλq=>⟨[],rfl⟩
 |cons v xs D =>intro h;obtain⟨d,hd⟩:=h v (.head _);obtain⟨u,h1⟩:=D λv hv=>h v (.tail _ hv);exact⟨d::u,by rw[iF,hd,h1];rfl⟩
theorem wI(h:∀v∈xs,∃d,dat H m v=some d):∃u,xs.mapM (dat H m)=some u/\dat H (m+1) (.list xs)=some (.list u):=by obtain⟨u,h1⟩:=zIv h;exact⟨u,h1,by show(xs.mapM (dat H m)).map nT=_;rw[h1];rfl⟩
theorem qBv(h1:xs.mapM (dat H m)=some u)(D:H.o j=some (.list xs)):dat H (m+1) (.ref j)=some (.list u):=by show((asO (H.o j)).bind λxs=>(xs.mapM (dat H m)).map nT)=_;rw[D];show(xs.mapM (dat H m)).map nT=_;rw[h1];rfl
theorem qRe:∀v∈natsV l,∃d,dat H (m+1) v=some d:=λv hv=>by
 refine ae (List.mem_map.mp hv) λi q u=>?_;subst u
 exact⟨_,rfl⟩
theorem zIu{s:Int}:∀v∈qVx s l,∃d,dat H (m+2) v=some d:=λv hv=>by
 refine ae (List.mem_map.mp hv) λi q u=>?_;subst u
 exact⟨_,rfl⟩
theorem qKt{s:Int}:∀v∈toldL c A s++exL A.ex,∃d,dat H 7 v=some d:=λv hv=>by
 rcases List.mem_append.mp hv with hv|hv
 .simp only[toldL,pN,List.not_mem_nil,or_false]at hv
  rcases hv with rfl|rfl|rfl|rfl|rfl|rfl|rfl
  .exact⟨_,rfl⟩
  .exact⟨_,rfl⟩
  .exact⟨_,rfl⟩
  .exact⟨_,rfl⟩
  .exact⟨_,rfl⟩
  .exact⟨_,rfl⟩
  .exact ae (wI (H:=H) (m:=6) (zIu (m:=4) (l:=A.r2.s.brk) (s:=s))) λD q h=>⟨_,h⟩
 .cases u:A.ex with
  |none=>rw[u]at hv;cases hv
  |some i=>rw[u]at hv;rw[List.mem_singleton.mp hv];exact⟨_,rfl⟩
end
theorem Tell.ready(h:Tell l M R c)(u:l≠[])(D:l.length<=900):study (lastp (four (l.map tr12)))=some (R,c)/\∀M',scan 1000 .out (lastp (four (l.map tr12))) ⟨0,0,[0],0⟩=some M'->M'.gl≠[]:=by
 obtain⟨e1,e2⟩:=qXm (by
  refine⟨l.dropLast.map tr12,?_⟩
  conv=>lhs;rw[<- bF u,fD]
  rw[h.nl _ (r5 u)];rfl:isLine (l.map tr12)) (by rw[m8];exact b7 D pi)
 obtain hm:march .out (l.map tr12) ⟨0,0,[0],0⟩=some M:=h.ma;rw[e1,e2,hm];refine⟨h.en,λM' e=>?_⟩;subst e;exact h.re.fine.ne
noncomputable def zOj:X:=.list (.cons (.attr "walker" "code") (.cons (.m "walker" "get_continuation_type" .nil) (qc (.attr "walker" "goodlines"))))
noncomputable def zPs:X:=.list (.cons (.attr "left" "code") (.cons (.idx "due" (.int 0)) (qc "good")))
noncomputable def zPj:X:=.list (.cons (.g "C_NONE") (.cons (.bool false) (.cons (.str "") (.cons (.str "") (.cons "start" (.cons "start" (.cons (.list (qc (.tup (.cons "start" (.cons (.int 0) .nil))))) .nil)))))))
noncomputable def zGh:S:=.seq (.ret (.bool false)) .nil
def qWx:S:=.seq (.ite (.cmp .NotEq (.comp (.bin .Add (.cv "number") "line") "line" (.attr "left" "goodlines") (.bool true)) (.comp "line" "line" "good" (.cmp .GtE "line" (.cv "number")))) zGh .nil) .nil
def zKb:S:=.seq (.a "told" (.call (.g "_law_all") (.cons "left" (qc "start")))) (.seq (.ite (.cmp .GtE (.attr "whole" "stmt_start") "start") (.seq (.ite (.cmp .NotEq "told" "due") zGh .nil) .nil) (.seq (.ite (.cmp .NotEq "told" zPj) zGh .nil) .nil)) qWx)
def zKc:S:=.seq (.a "start" (.call (.g "len") (qc (.m (.str "") "join" (qc (.slc "rows" .none (.cv "number"))))))) (.seq (.a "left" (.call (.g "Parser") (.cons (.int 4) (.cons (.int 8) .nil)))) (.seq (.expr (.m "left" "set_code" (qc "text"))) (.seq (.expr (.m "left" "set_lo" (qc "start"))) (.seq (.expr (.m "walker" "set_lo" (qc (.bin .Sub "start" "stood")))) (.seq (.a "stood" "start") (.seq (.ite (.cmp .NotEq zOj zPs) zGh .nil) zKb))))))
def zKn:S:=.seq (.eachC "number" (.slc "good" .none (.neg (.int 1))) zKc) (.seq (.ret (.bool true)) .nil)
def zSa:S:=.seq (.a "rows" (.comp (.bin .Add "row" (.str "\n")) "row" (.slc (.m "text" "split" (.cons (.str "\n") .nil)) .none (.neg (.int 1))) (.bool true))) (.seq (.a "whole" (.call (.g "Parser") (.cons (.int 4) (.cons (.int 8) .nil)))) (.seq (.expr (.m "whole" "set_code" (qc "text"))) (.seq (.a "due" (.call (.g "_law_all") (.cons "whole" (.cons (.int 0) .nil)))) (.seq (.a "good" (.attr "whole" "goodlines")) (.seq (.a "walker" (.call (.g "Parser") (.cons (.int 4) (.cons (.int 8) .nil)))) (.seq (.expr (.m "walker" "set_code" (qc "text"))) (.seq (.expr (.m "walker" "get_continuation_type" .nil)) (.seq (.a "stood" (.int 0)) zKn))))))))
theorem zNc:qQs=.seq (.a "text" (.call (.g "_law_text") (qc "script"))) zSa:=rfl
structure Kn(l:Ln)(M:Mk)(R:Ln)(c:Nat)(A:Ans)(a:Nat):Prop where
 text:LawT l
 tell:Tell l M R c
 ans:Answers (tx l) R c A
 at_:A.r2.a=((a:Nat):Int)
 brk:A.r2.s.brk.length<=1000
 rest:∀g,g∈M.gl->∃M0 R0 G' A',Tell (dropR l g) M0 R0 c/\R=G'++R0.map (g + ·)/\Answers (tx (dropR l g)) R0 c A'/\A'.r2.s.brk.length<=1000/\((ofs l g<=a/\Moved (ofs l g) A A')\/(a<ofs l g/\A'=junkA/\c=0))
theorem qJd(h:xF x gl=some r):r.s.brk.length<=1000:=by
 have D:∀a b:Int,readF x a b=some r->r.s.brk.length<=1000:=λa b h=>by
  refine qa h λs h1 J=>?_;subst J;refine px h1 λs' z h2=>?_;by_cases q:s'.stack.length<=1000/\s'.brk.length<=1000
  .replace h2:=aw q h2;subst h2;exact q.2
  .replace h2:=ao q h2;cases h2
 by_cases q:gl.length=0\/gl.length>1000
 .replace h:=aw q h;cases h
 .obtain h:=ao q h;refine px h λu z h=>?_;by_cases I:u.1=0
  .replace h:=aw I h;by_cases F:u.2.1=0
   .obtain h:=aw F h;exact D _ _ h
   .replace h:=ao F h;cases h
  .obtain h:=ao I h;exact D _ _ h
theorem jA(l:Ln):(tx l).length=l.length:=s8 ..
theorem LawT.nl(h:LawT l):NlL l:=λc hc=>by rw[h.last]at hc;exact(b5 hc).symm
theorem zPu(h:LawT l):∃M R c A a,Kn l M R c A a:=by refine dn (tell h.nl) λM R c t=>bi (zHi (x:=tx l) rfl (by rw[jA];exact i9 h.len pi) t h.low) λA a h1 h2 h3=>?_;exact⟨M,R,c,A,a,h,t,h1,h2,qJd h1.st,λg hg=>fx (h3 g (tx (dropR l g)) hg rfl) λM0 R0 G' A' I D u F=>⟨M0,R0,G',A',I,D,u,qJd u.st,F⟩⟩
structure Wh(num:Option V)(l R:Ln)(c:Nat)(A:Ans)(kW dW jD jG kK dK gp:Nat)(H:Hp):Prop where
 o1:H.o 0=some (.cell num)
 n1:0<H.n
 whole:∃fs,PO H kW dW fs/\F2x fs 4 8 (tx l) c jG A.r2
 lkW:kW<H.n
 ldW:dW<H.n
 good:H.o jG=some (.list (natsV R))
 ljG:jG<H.n
 due:H.o jD=some (.list (toldL c A 0++exL A.ex))
 ljD:jD<H.n
 walk:∃fs,Std H kK dK 4 8 (tx (dropR l gp)) R c fs
 ne:dW≠dK
structure Fw(l:Ln)(kW jD jG kK s:Nat)(σ:St):Prop where
 e:σ.e=[(("number":Str),0)]
 text:σ.l.lookup ("text":Str)=some (.str (tx l))
 rows:σ.l.lookup ("rows":Str)=some (.list (((zI l).map tx).map .str))
 whole:σ.l.lookup ("whole":Str)=some (.ref kW)
 due:σ.l.lookup ("due":Str)=some (.ref jD)
 good:σ.l.lookup ("good":Str)=some (.ref jG)
 walker:σ.l.lookup ("walker":Str)=some (.ref kK)
 stood:σ.l.lookup ("stood":Str)=some (.int (s:Nat))
noncomputable def zMv:List Str:=["text","rows","whole","due","good","walker","stood"]
theorem zOa:∀y∈(["start","left","told"]:List Str),∀z∈zMv,(z==y)=false:=pw
theorem Fw.set(h:Fw l kW jD jG kK s σ)(u:y∈(["start","left","told"]:List Str)):Fw l kW jD jG kK s (σ.set y v):=by obtain a:=zOa y u;exact⟨h.e,qA (a _ pi) h.text,qA (a _ pi) h.rows,qA (a _ pi) h.whole,qA (a _ pi) h.due,qA (a _ pi) h.good,qA (a _ pi) h.walker,qA (a _ pi) h.stood⟩
theorem Fw.heap(h:Fw l kW jD jG kK s σ):Fw l kW jD jG kK s { σ with h:=H }:=⟨h.e,h.text,h.rows,h.whole,h.due,h.good,h.walker,h.stood⟩
section
variable{num:Option V}{l R:Ln}{c:Nat}{A:Ans}{kW dW jD jG kK dK gp:Nat}{H H':Hp}
theorem Wh.in_(h:Wh num l R c A kW dW jD jG kK dK gp H)(D:H.n<=H'.n){num':Option V}(h1:H'.o 0=some (.cell num'))(hs:∀i,i<H.n->(∀o,H.o i≠some (.cell o))->((∃es,H.o i=some (.dict es))->i=dW\/i=dK)->H'.o i=H.o i):Wh num' l R c A kW dW jD jG kK dK gp H':=by
 refine ae h.whole λfs p1 p2=>bf h.walk λL w=>?_;refine⟨h1,g9 h.n1 D,⟨fs,p1.in_ (hs kW h.lkW (λo z=>?_) λu=>bf u λes z=>?_) (hs dW h.ldW (λo z=>?_) λq=>.inl rfl),p2⟩,g9 h.lkW D,g9 h.ldW D,
  (hs jG h.ljG (λo z=>?_) λu=>bf u λes z=>?_).trans h.good,g9 h.ljG D,(hs jD h.ljD (λo z=>?_) λu=>bf u λes z=>?_).trans h.due,g9 h.ljD D,⟨L,?_⟩,h.ne⟩
 .replace z:=p1.inst.symm.trans z;cases z
 .replace z:=p1.inst.symm.trans z;cases z
 .replace z:=p1.dict.symm.trans z;cases z
 .replace z:=h.good.symm.trans z;cases z
 .replace z:=h.good.symm.trans z;cases z
 .replace z:=h.due.symm.trans z;cases z
 .replace z:=h.due.symm.trans z;cases z
 .refine ck w.st λj J F N I=>⟨w.po.in_ (hs kK w.k (λo z=>?_) λu=>bf u λes z=>?_) (hs dK w.d (λo z=>?_) λq=>.inr rfl),⟨j,J,(hs j I (λo z=>?_) λu=>bf u λes z=>?_).trans F,N,g9 I D⟩,g9 w.k D,g9 w.d D⟩
  .replace z:=w.po.inst.symm.trans z;cases z
  .replace z:=w.po.inst.symm.trans z;cases z
  .replace z:=w.po.dict.symm.trans z;cases z
  .replace z:=F.symm.trans z;cases z
  .replace z:=F.symm.trans z;cases z
theorem Wh.same(h:Wh num l R c A kW dW jD jG kK dK gp H)(hs:Same H H'):Wh num l R c A kW dW jD jG kK dK gp H':=h.in_ hs.1 ((hs.2 0 h.n1).trans h.o1) λi hi q q=>hs.2 i hi
theorem Wh.kept(h:Wh num l R c A kW dW jD jG kK dK gp H)(hs:Kept H H' d){fs:Flds}(hd:H.o d=some (.dict fs))(h1:d≠dW)(h2:d≠dK):Wh num l R c A kW dW jD jG kK dK gp H':=by
 refine h.in_ hs.n ((hs.same 0 h.n1 λz=>?_).trans h.o1) λi hi q u=>hs.same i hi λz=>?_
 .rw[<- z,h.o1]at hd;cases hd
 .exact(u ⟨fs,z▸hd⟩).elim (λw=>h1 (z▸w)) λw=>h2 (z▸w)
end
theorem qJk(u:r<=l.count 10)(h:ofs l r≠0):l[ofs l r-1]?=some 10:=by
 obtain h1:=qCz (zW l r u).1 (λz=>h (by unfold ofs;rw[z];rfl));rw[eE]at h1;conv=>lhs;rw[<- qM l r]
 rw[qM];obtain h2:(takeR l r++dropR l r)[ofs l r-1]?=some 10:=by rw[iB (gW (r6 h) pM:ofs l r-1<(takeR l r).length)];exact h1
 rw[qM]at h2;exact h2
theorem qVj(h:p<=g):dropR l g=dropR (dropR l p) (g-p)/\ofs l g=ofs l p+ofs (dropR l p) (g-p):=by
 obtain⟨k,rfl⟩:∃k,g=p+k:=⟨g-p,by simp[h]⟩
 rw[w7];exact⟨kM l p k,wT l p k⟩
section
variable{pp:dQ}{ns:List Int}
theorem Wh.lo(h:Wh num l R c A kW dW jD jG kK dK gp H){fs':Flds}(w:Std (hput H dK (.dict fs')) kK dK 4 8 (tx (dropR l g)) R c fs'){fs:Flds}(hd:H.o dK=some (.dict fs)):Wh num l R c A kW dW jD jG kK dK g (hput H dK (.dict fs')):=by
 refine ae h.whole λu p1 p2=>?_;obtain ne:∀{i:Nat},(∀es,H.o i≠some (.dict es))->i≠dK:=λq z=>q _ (z▸hd);refine⟨(qX (ne λes z=>?_)).trans h.o1,h.n1,⟨u,p1.oth (ne λes z=>?_) h.ne,p2⟩,h.lkW,h.ldW,(qX (ne λes z=>?_)).trans h.good,h.ljG,(qX (ne λes z=>?_)).trans h.due,h.ljD,⟨fs',w⟩,h.ne⟩
 .replace z:=h.o1.symm.trans z;cases z
 .replace z:=p1.inst.symm.trans z;cases z
 .replace z:=h.good.symm.trans z;cases z
 .replace z:=h.due.symm.trans z;cases z
theorem qNl(u:Fw l kW jD jG kK n σ)(D:Wh (some (.int (g:Nat))) l R c A kW dW jD jG kK dK gp σ.h):∀loc,ev (T pp m).c (.cv "number") ⟨σ.h,loc,σ.e⟩=.ok (.int (g:Nat)) ⟨σ.h,loc,σ.e⟩:=λloc=>zLf (σ:=⟨σ.h,loc,σ.e⟩) (c:=0) (by rw[u.e];rfl) D.o1
noncomputable def zKo(g:Nat):V->V
 | .int i=>.int ((g:Int)+i)
 |v=>v
def geV(g:Nat)(v:V):Bool:=(qZ v).elim false λi=>decide (i≥(g:Int))
theorem zHw:(natsV l).filter (geV g)=natsV (l.filter λi=>decide (g<=i)):=by refine List.filter_map.trans ?_;congr 1;exact List.filter_congr λi q=>decide_eq_decide.mpr Int.ofNat_le
theorem qUm:(natsV l).map (zKo g)=natsV (l.map (g + ·)):=by unfold natsV;simp only[iL,iL];rfl
theorem qUz(h:Tell l M R c)(t:Tell (dropR l g) M0 R0 c)(e:R=G'++R0.map (g + ·)):R.filter (λi=>decide (g<=i))=R0.map (g + ·):=by
 refine ae t.head λu I q=>?_;obtain ha:=h.asc;rw[e]at ha |-;obtain hlt:∀x∈G',x<g:=λx D=>by have:=(List.pairwise_append.mp ha).2.2 x D (g+0) (by rw[I];exact .head _);exact this
 rw[filter_append,List.filter_eq_nil_iff.mpr λx D=>by have:=hlt x D;simp;exact this,nil_append];refine List.filter_eq_self.mpr λx D=>ae (List.mem_map.mp D) λy q F=>?_;subst F;exact e9 (n5 _ _)
theorem qRz{O S:Nat}{V:Flds}(F:Kn l M R c A a)(I:Fw l kW jD jG kK s σ)(J:Wh (some (.int (g:Nat))) l R c A kW dW jD jG kK dK gp σ.h)(hL:σ.l.lookup ("left":Str)=some (.ref O))(L:Told σ.h O S 4 8 x R0 c r2 V)(t:Tell (dropR l g) M0 R0 c)(e:R=G'++R0.map (g + ·)):Gd (ex qWx (T pp 6) σ) λf σ'=>f=.next/\σ'=σ:=by
 refine bh L.st λj X U q=>?_;have D:=F.text.len;have N:=F.tell.small;obtain hR0:R0.length<=1000:=by have:=g0 List.length e;rw[g8,m8]at this;exact mi D N this
 obtain e1:=qGn (σ:=σ) (elt:=.bin .Add (.cv "number") "line") (x:="line") (zKo g) (qK (qB (cx:=(T pp 6).c) hL) (L.po.fld bT (f:="goodlines") pi X.f2.good rfl)) (xs:=natsV R0) (show asO (σ.o j)=_ by rw[show σ.o j=_ from U];rfl) (λv hv=>by
  refine ae (List.mem_map.mp hv) λi hi u=>?_;subst u
  exact qO (qNl (pp:=pp) I J _) (qB (x:="line") rfl)) (by unfold natsV;rw[m8];exact b7 hR0 pi)
 rw[qUm]at e1;obtain e2:=qWq (σ:=σ) (x:="line") (cond:=.cmp .GtE "line" (.cv "number")) (geV g) (qB (cx:=(T pp 6).c) I.good) (xs:=natsV R) (show asO (σ.o jG)=_ by rw[show σ.o jG=_ from J.good];rfl) (λv hv=>by
  refine ae (List.mem_map.mp hv) λi hi u=>?_;subst u
  exact jV (qB (x:="line") rfl) (qNl (pp:=pp) I J _)) (by unfold natsV;rw[m8];exact b7 N (bx D))
 rw[zHw,qUz F.tell t e]at e2;exact ae (wI (H:=σ.h) (m:=7) (qRe (m:=6) (l:=R0.map (g + ·)))) λY q hd=>qN (t:=false) (kD e1 e2 (uG hd hd)) (λz=>by cases z) λq=>qF ⟨rfl,rfl⟩
theorem qLw(h:Moved s A A'):toldL c A' (s:Nat)++exL A'.ex=toldL c A 0++exL A.ex:=by
 unfold toldL;simp only[h.cl,h.y,h.ex,h.last,h.a,h.b,(by
  simp only[h.brk]
  unfold qVx
  simp only[iL]
  refine mP λb q=>?_
  show V.tup [.int (b.1+((s:Nat):Int)+0),.int b.2]=_
  simp only[oU]:qVx 0 A.r2.s.brk=qVx (s:Nat) A'.r2.s.brk),oU,oU]
theorem qSg:toldL 0 junkA (s:Nat)++exL junkA.ex=[.int 0,.bool false,.str "",.str "",.int (s:Nat),.int (s:Nat),.list [.tup [.int (s:Nat),.int 0]]]:=by show[V.int ((0:Nat):Int),.bool false,.str "",.str "",.int (0+((s:Nat):Int)),.int (0+((s:Nat):Int)),.list [.tup [.int (0+((s:Nat):Int)),.int 0]]]++[]=_;rw[Int.zero_add];rfl
theorem zBp:(T pp n).gl "_law_all"=some (.top (.ref 280)):=by rw[bT.gl];rfl
theorem qSa{J F:Nat}{fL:Flds}{M0:Mk}{R0 G':Ln}{A':Ans}{s:Nat}(S:Kn l M R c A a)(V:Fw l kW jD jG kK s σ)(X:Wh (some (.int (g:Nat))) l R c A kW dW jD jG kK dK gp σ.h)(hL:σ.l.lookup ("left":Str)=some (.ref J))(O:σ.l.lookup ("start":Str)=some (.int (ofs l g:Nat)))(N:Ready σ.h J F fL 4 8 (tx (dropR l g)) R0 c)(d1:F≠dW)(d2:F≠dK)(t:Tell (dropR l g) M0 R0 c)(e:R=G'++R0.map (g + ·))(U:Answers (tx (dropR l g)) R0 c A')(Z:A'.r2.s.brk.length<=1000)(u:(ofs l g<=a/\Moved (ofs l g) A A')\/(a<ofs l g/\A'=junkA/\c=0)):Gd (ex zKb (T pp 6) σ) λf σ'=>f=.next/\Fw l kW jD jG kK s σ'/\Wh (some (.int (g:Nat))) l R c A kW dW jD jG kK dK gp σ'.h:=by
 obtain⟨σ1,j,a1,a2,a3,a4,a5,fs',a6⟩:=qJt (pp:=pp) (n:=2) (s:=((ofs l g:Nat):Int)) N U Z;refine gd_sasg (zJ (cx:=(T pp 6).c) (σ:=σ) (as:=.cons "left" (qc "start")) (qQ zBp) (qE (qB hL) (qE (qB O) rfl)) a1) ?_;obtain h1:=@qD ({ σ with h:=σ1.h }:St) "told" (.ref j);obtain h2:(({ σ with h:=σ1.h }:St).set "told" (.ref j)).l.lookup ("left":Str)=some (.ref J):=zX2 hL;have h3:(({ σ with h:=σ1.h }:St).set "told" (.ref j)).l.lookup ("start":Str)=some (.int (ofs l g:Nat)):=zX2 O;have h4:Fw l kW jD jG kK s (({ σ with h:=σ1.h }:St).set "told" (.ref j)):=(V.heap (H:=σ1.h)).set pi;have h5:Wh (some (.int (g:Nat))) l R c A kW dW jD jG kK dK gp (({ σ with h:=σ1.h }:St).set "told" (.ref j)).h:=X.kept a2 N.po.dict d1 d2;have L:Told (({ σ with h:=σ1.h }:St).set "told" (.ref j)).h J F 4 8 (tx (dropR l g)) R0 c A'.r2 fs':=a6;have I:(({ σ with h:=σ1.h }:St).set "told" (.ref j)).h.o j=some (.list (toldL c A' (ofs l g:Nat)++exL A'.ex)):=a5;generalize({ σ with h:=σ1.h }:St).set "told" (.ref j)=σ at h1 h2 h3 h4 h5 L I ⊢;have last:Gd (ex qWx (T pp 6) σ) λf σ'=>f=.next/\Fw l kW jD jG kK s σ'/\Wh (some (.int (g:Nat))) l R c A kW dW jD jG kK dK gp σ'.h:=(qRz S h4 h5 h2 L t e).mono λf σ' q=>by obtain⟨rfl,rfl⟩:=q;exact⟨rfl,h4,h5⟩
 refine ae h5.whole λfw p1 p2=>?_;obtain c2:=jV (qK (qB (cx:=(T pp 6).c) h4.whole) (p1.fld bT (f:="stmt_start") pi p2.a rfl)) (qB h3);rw[S.at_]at c2;refine yC c2 (λq=>?_) λq=>?_
 .rw[qLw ((u.resolve_right λz=>d9 z.1 (Nat.not_lt.mpr (Int.ofNat_le.mp (j6 q)))).2)]at I;exact ae (wI (H:=σ.h) (m:=7) (qKt (c:=c) (A:=A) (s:=0))) λds D w=>qN (t:=false) (kD (qB h1) (qB h4.due) (uG (qBv D I) (qBv D h5.due))) (λz=>by cases z) λw=>qF last
 .obtain⟨_,hj,hc⟩:=u.resolve_left λz=>d9 z.1 (Nat.not_le.mpr (Int.ofNat_lt.mp (Int.not_le.mp (w5 q))));clear c2 L h5 h4 h2 S V X hL O N U Z u;subst hj hc;refine ae (wI (H:=σ.h) (m:=7) (qKt (c:=0) (A:=junkA) (s:=((ofs l g:Nat):Int)))) λds D Y=>?_;rw[qSg]at Y;exact qN (t:=false) (kD (qB h1) (
   vF (qE (qQ (zNh bT)) (qE rfl (qE rfl (qE rfl (qE (qB h3) (qE (qB h3) (qE (vF (qE (qAo (qE (qB h3) (qE rfl rfl)) (by show 2<=j0;decide)) rfl) (by show 1<=j0;decide)) rfl))))))) (by show 7<=j0;decide)) (uG (qBv D I) Y)) (λz=>by cases z) λw=>qF last
theorem qFp:(T pp n).gl "Parser"=some (.top (.ref 266)):=by rw[bT.gl];rfl
theorem qJg:Kept H (hput H d o) d:=⟨i5 _,λq q hd=>qX hd⟩
theorem qSb(Y:Kn l M R c A a)(hg:g∈M.gl)(U:g<l.count 10)(a7:gp<=g)(u:Fw l kW jD jG kK (ofs l gp) σ)(D:Wh (some (.int (g:Nat))) l R c A kW dW jD jG kK dK gp σ.h):Gd (ex zKc (T pp 6) σ) λf σ'=>f=.next/\Fw l kW jD jG kK (ofs l g) σ'/\Wh (some (.int (g:Nat))) l R c A kW dW jD jG kK dK g σ'.h:=by
 have L:=Y.text.len;obtain hnl:=Y.text.nl;have a5:=Y.text.low;refine cn (Y.rest g hg) λM0 R0 G' A' t e hA hb a8=>?_;obtain hfl:=rows_take l g hnl;refine gd_sasg (zJz (
  qR (σ':={ h:=σ.h,l:=[] }) (vo:=.str "") rfl (xX bT zAq) (qE (by
  refine jU (qB u.rows) (show ev (T pp 6).c .none σ=.ok .none σ from rfl) (qNl (pp:=pp) u D σ.l) ?_
  show Ov.ok (.list (cut (((zI l).map tx).map V.str) none (some (g:Int))))=_
  rw[zCo,pZ,pZ]:ev (T pp 6).c (.slc "rows" .none (.cv "number")) σ=.ok (.list ((((zI l).take g).map tx).map .str)) σ) rfl) (by
   rw[bT.bl]
   show bapp "str.join" [.str "",.list ((((zI l).take g).map tx).map .str)] _=_
   rw[qGd,qJw (by rw[hfl];exactλd hd=>a5 d (by rw[<- qM l g];exact mL _ hd)) (by rw[hfl];exact b7 (qCw l g) (bj L)),hfl];rfl)) (by show okH (.int ((tx (takeR l g)).length:Nat)) _=_;rw[jA];rfl):ev (T pp 6).c (.call (.g "len") (qc (.m (.str "") "join" (qc (.slc "rows" .none (.cv "number")))))) σ=.ok (.int (ofs l g:Nat)) σ) ?_
 have I:=@qD σ "start" (.int (ofs l g:Nat));obtain u:=u.set (y:="start") (v:=.int (ofs l g:Nat)) pi;obtain D:Wh (some (.int (g:Nat))) l R c A kW dW jD jG kK dK gp (σ.set "start" (.int (ofs l g:Nat))).h:=D;generalize σ.set "start" (.int (ofs l g:Nat))=σ at I u D ⊢;obtain⟨σ1,a1,a2,a3,a4⟩:=qJq (pp:=pp) (n:=4) (H:=σ.h) (iw:=4) (tw:=8);have O:σ.h.n≠dW/\σ.h.n≠dK:=⟨dO D.ldW,by obtain⟨fk,w⟩:=D.walk;exact dO w.d⟩
 refine gd_sasg (zJ (cx:=(T pp 6).c) (σ:=σ) (as:=.cons (.int 4) (.cons (.int 8) .nil)) (qQ qFp) (qE rfl (qE rfl rfl)) a1) ?_;obtain hL:=@qD ({ σ with h:=σ1.h }:St) "left" (.ref (σ.h.n+1));obtain I:(({ σ with h:=σ1.h }:St).set "left" (.ref (σ.h.n+1))).l.lookup ("start":Str)=some (.int (ofs l g:Nat)):=zX2 I;obtain u:=(u.heap (H:=σ1.h)).set (y:="left") (v:=.ref (σ.h.n+1)) pi;obtain D:Wh (some (.int (g:Nat))) l R c A kW dW jD jG kK dK gp (({ σ with h:=σ1.h }:St).set "left" (.ref (σ.h.n+1))).h:=D.same (⟨by show σ.h.n<=σ1.n;rw[a3];exact n5 _ 2,a4⟩:Same σ.h σ1.h);have F:PO (({ σ with h:=σ1.h }:St).set "left" (.ref (σ.h.n+1))).h (σ.h.n+1) σ.h.n (fs2 4 8):=a2;obtain hk:σ.h.n+1<(({ σ with h:=σ1.h }:St).set "left" (.ref (σ.h.n+1))).n:=by show _<σ1.n;rw[a3];exact s9 _
 generalize({ σ with h:=σ1.h }:St).set "left" (.ref (σ.h.n+1))=τ at hL I u D F hk ⊢;generalize σ.h.n=dL at hL F hk O;generalize aa:dL+1=kL at hL F hk;obtain⟨σ2,b1,b2⟩:=qAp (pp:=pp) (n:=5) (x:=tx l) (by rw[jA];exact b7 L pi) (.inr ⟨l.dropLast,by
  have S:l≠[]:=λz=>by have:=Y.text.last;rw[z]at this;cases this
  show l=_
  conv=>lhs;rw[<- bF S]
  rw[hnl _ (r5 S)]⟩) F (fs2_I (iw:=4) (tw:=8))
 refine zC (qR (qB hL) (F.get bT (fs2_I.kx.m pi) (by rfl)) (qE (qB u.text) rfl) b1) ?_;rw[b2];obtain hFs:=(fs2_I (iw:=4) (tw:=8)).set (tx l);obtain D:=D.kept (qJg (d:=dL) (o:=.dict (setF "study_level" (.int 0) (setF "code" (.str (tx l)) (fs2 4 8))))) F.dict O.1 O.2;obtain F:PO ({ τ with h:=hput τ.h dL (.dict (setF "study_level" (.int 0) (setF "code" (.str (tx l)) (fs2 4 8)))) }:St).h kL dL _:=F.put (fs':=setF "study_level" (.int 0) (setF "code" (.str (tx l)) (fs2 4 8)));obtain u:=u.heap (H:=hput τ.h dL (.dict (setF "study_level" (.int 0) (setF "code" (.str (tx l)) (fs2 4 8)))));obtain D:Wh (some (.int (g:Nat))) l R c A kW dW jD jG kK dK gp ({ τ with h:=hput τ.h dL (.dict (setF "study_level" (.int 0) (setF "code" (.str (tx l)) (fs2 4 8)))) }:St).h:=D;obtain hL:({ τ with h:=hput τ.h dL (.dict (setF "study_level" (.int 0) (setF "code" (.str (tx l)) (fs2 4 8)))) }:St).l.lookup ("left":Str)=some (.ref kL):=hL;obtain I:({ τ with h:=hput τ.h dL (.dict (setF "study_level" (.int 0) (setF "code" (.str (tx l)) (fs2 4 8)))) }:St).l.lookup ("start":Str)=some (.int (ofs l g:Nat)):=I;obtain hk:kL<({ τ with h:=hput τ.h dL (.dict (setF "study_level" (.int 0) (setF "code" (.str (tx l)) (fs2 4 8)))) }:St).n:=hk;obtain hd:dL<({ τ with h:=hput τ.h dL (.dict (setF "study_level" (.int 0) (setF "code" (.str (tx l)) (fs2 4 8)))) }:St).n:=mT (by rw[<- aa];exact s9 _) hk;generalize setF "study_level" (.int 0) (setF "code" (.str (tx l)) (fs2 4 8))=fC at u D hL I hk hd F hFs ⊢;generalize({ τ with h:=hput τ.h dL (.dict fC) }:St)=σ at u D hL I hk hd F ⊢;obtain⟨σ3,Z,J,c2,c3⟩:=qEv (pp:=pp) (n:=5) (x:=tx l) (y:=tx (dropR l g)) (s:=ofs l g) (by rw[jA];exact b7 L pi) (by rw[jA];exact qCw l g) (λz=>qJk (m9 U) z) (qCx l g).symm F hFs;refine zC (qR (qB hL) (F.get bT (hFs.kx.m pi) (by rfl)) (qE (qB I) rfl) Z) ?_;rw[c2];obtain hFs:=hFs.lo c3;replace D:Wh (some (.int (g:Nat))) l R c A kW dW jD jG kK dK gp ({ σ with h:=hput σ.h dL (.dict J) }:St).h:=D.kept (qJg (d:=dL) (o:=.dict J)) F.dict O.1 O.2;obtain F:PO ({ σ with h:=hput σ.h dL (.dict J) }:St).h kL dL J:=F.put (fs':=J);obtain u:=u.heap (H:=hput σ.h dL (.dict J));obtain hL:({ σ with h:=hput σ.h dL (.dict J) }:St).l.lookup ("left":Str)=some (.ref kL):=hL;obtain I:({ σ with h:=hput σ.h dL (.dict J) }:St).l.lookup ("start":Str)=some (.int (ofs l g:Nat)):=I;obtain hk:kL<({ σ with h:=hput σ.h dL (.dict J) }:St).n:=hk;obtain hd:dL<({ σ with h:=hput σ.h dL (.dict J) }:St).n:=hd;generalize({ σ with h:=hput σ.h dL (.dict J) }:St)=σ at u D hL I hk hd F ⊢;obtain⟨fk,w⟩:=D.walk;obtain⟨jw,X,w2,_⟩:=w.st;obtain⟨q1,q2⟩:=qVj (l:=l) a7;obtain⟨σ4,Z,N,c2,c3⟩:=qEv (pp:=pp) (n:=5) (x:=tx (dropR l gp)) (y:=tx (dropR l g)) (s:=ofs (dropR l gp) (g-gp)) (by rw[jA];exact b7 ((qL l gp).length_le) (bj L)) (by rw[jA];exact qCw _ _) (λz=>qJk (l:=dropR l gp) (r:=g-gp) (mj U (zN (l:=l) (r:=gp) (b7 a7 (m9 U)))) z) (by show dropR l g=(dropR l gp).drop _;rw[qCx];exact q1) w.po X.toFsP;refine zC (qR (qB u.walker) (w.po.get bT (X.kx.m pi) (by rfl)) (qE (by
  rw[kB (qB I) (qB u.stood),show((ofs l g:Nat):Int)-((ofs l gp:Nat):Int)=((ofs (dropR l gp) (g-gp):Nat):Int)by rw[q2];simp +arith]) rfl) Z) ?_
 rw[c2];obtain S:kL≠dK:=λz=>by have h1:=F.inst;rw[z,w.po.dict]at h1;cases h1
 obtain D:Wh (some (.int (g:Nat))) l R c A kW dW jD jG kK dK g ({ σ with h:=hput σ.h dK (.dict N) }:St).h:=D.lo (w.lo c3) w.po.dict;obtain F:PO ({ σ with h:=hput σ.h dK (.dict N) }:St).h kL dL J:=F.oth S O.2;obtain u:=u.heap (H:=hput σ.h dK (.dict N));obtain hL:({ σ with h:=hput σ.h dK (.dict N) }:St).l.lookup ("left":Str)=some (.ref kL):=hL;obtain I:({ σ with h:=hput σ.h dK (.dict N) }:St).l.lookup ("start":Str)=some (.int (ofs l g:Nat)):=I;obtain hk:kL<({ σ with h:=hput σ.h dK (.dict N) }:St).n:=hk;replace hd:dL<({ σ with h:=hput σ.h dK (.dict N) }:St).n:=hd;generalize({ σ with h:=hput σ.h dK (.dict N) }:St)=σ at u D hL I hk hd F ⊢;refine gd_sasg (qB I) ?_;replace hL:=@qA σ "stood" "left" (.int (ofs l g:Nat)) _ pi hL;replace u:Fw l kW jD jG kK (ofs l g) (σ.set "stood" (.int (ofs l g:Nat))):=⟨u.e,zX2 u.text,zX2 u.rows,zX2 u.whole,zX2 u.due,zX2 u.good,zX2 u.walker,qD⟩
 replace I:=@qA σ "stood" "start" (.int (ofs l g:Nat)) _ pi I;replace D:Wh (some (.int (g:Nat))) l R c A kW dW jD jG kK dK g (σ.set "stood" (.int (ofs l g:Nat))).h:=D;replace F:PO (σ.set "stood" (.int (ofs l g:Nat))).h kL dL J:=F;replace hk:kL<(σ.set "stood" (.int (ofs l g:Nat))).n:=hk;replace hd:dL<(σ.set "stood" (.int (ofs l g:Nat))).n:=hd;generalize σ.set "stood" (.int (ofs l g:Nat))=σ at u D hL I hk hd F ⊢;obtain⟨fk,w⟩:=D.walk;obtain⟨jw,X,w2,_⟩:=w.st;obtain⟨σ5,Z,c2⟩:=qOb (pp:=pp) (n:=4) w;have e1:=qR (σ:=σ) (qB (cx:=(T pp 6).c) u.walker) (w.po.get bT (X.kx.m pi) (m:="get_continuation_type") (a:=207) (by rfl)) (show ev (T pp 6).c .nil σ=.ok (.list []) σ from rfl) Z;rw[c2]at e1;obtain⟨ds,k1,_⟩:=wI (H:=σ.h) (m:=6) (qRe (m:=5) (l:=R));have k2:∀{j:Nat},σ.h.o j=some (.list (natsV R))->dat σ.h 8 (.list [.str (tx (dropR l g)),.int (c:Nat),.ref j])=some (.list [.str (tx (dropR l g)),.int (c:Nat),.list ds]):=λ{j} ho=>by show(([.str (tx (dropR l g)),.int (c:Nat),.ref j]:List V).mapM (dat σ.h 7)).map nT=_;rw[iF,iF,iF,(qBv k1 ho)];rfl
 refine qN (t:=false) (kD (
  vF (qE (qK (qB u.walker) (w.po.fld bT pi X.code rfl)) (qE e1 (qE (qK (qB u.walker) (w.po.fld bT pi X.good rfl)) rfl))) (by show 3<=j0;decide)) (
  vF (qE (qK (qB hL) (F.fld bT pi hFs.code rfl)) (qE (kC (qB u.due) (show ev (T pp 6).c (.int 0) σ=.ok (.int ((0:Nat):Int)) σ from rfl) (vT (xs:=toldL c A 0++exL A.ex) (j:=0) rfl (show asO (σ.o jD)=_ by rw[show σ.o jD=_ from D.due];rfl) pi (jH (eQ _)) rfl)) (qE (qB u.good) rfl))) (by show 3<=j0;decide)) (uG (k2 w2) (k2 D.good))) (λz=>by cases z) λq=>?_
 have a6:=(qL l g).length_le;obtain⟨y1,y2⟩:=t.ready (λz=>by
  have:=zN (l:=l) (r:=g) (m9 U)
  rw[z]at this
  simp_all) (b7 a6 (bj L))
 exact qSa Y u D hL I (⟨F,hk,hd,hFs,yT (λd hd=>a5 d ((qL l g).mem hd)) (b7 a6 (bj L)),y1,y2⟩) O.1 O.2 t e hA hb a8
theorem qKr(h:Tell l M R c):∀g∈R.dropLast,g∈M.gl/\g<l.count 10:=λg hg=>by
 refine ae h.head λu I q=>?_
 have D:R≠[]:=by rw[I];exact lC _ _
 obtain hl:=h.last
 rw[r5 D]at hl
 have F:=h.asc
 rw[<- bF D]at F
 obtain hlt:=(List.pairwise_append.mp F).2.2 g hg (R.getLast D) (.head _)
 rw[b5 hl]at hlt
 exact⟨h.mem (mM _ hg) hlt,hlt⟩
theorem zAt(D:Kn l M R c A a)(I:Fw l kW jD jG kK (ofs l 0) σ)(F:Wh none l R c A kW dW jD jG kK dK 0 σ.h):Gd (ex zKn (T pp 6) σ) λf σ'=>f=.ret (.bool true):=by
 obtain hlen:=D.text.len;obtain hR:=D.tell.small;refine ae D.tell.head λu S q=>?_;have J:R≠[]:=by rw[S];exact lC _ _
 obtain hall:=qKr D.tell;refine zA (zBu (by
  refine jU (qB I.good) (rfl) qEh ?_
  show(asO (σ.o jG)).elim Ov.bad (λxs=>.ok (.list (cut xs none (some (-1)))))=_
  rw[show σ.o jG=_ from F.good]
  show Ov.ok (.list (cut (natsV R) none (some (-1))))=_
  rw[(by
   conv=>lhs;rw[<- bF J]
   unfold natsV
   rw[fD];rfl:natsV R=natsV R.dropLast++[V.int (R.getLast J:Nat)]),qRf]:ev (T pp 6).c (.slc "good" .none (.neg (.int 1))) σ=.ok (.list (natsV R.dropLast)) σ) rfl (λxs σ=>∃L gp num,xs=natsV L/\L.Pairwise (· < ·)/\(∀g∈L,g∈M.gl/\g<l.count 10/\gp<=g)/\Fw l kW jD jG kK (ofs l gp) σ/\Wh num l R c A kW dW jD jG kK dK gp σ.h) ⟨R.dropLast,0,none,rfl,((D.tell.asc).sublist (List.dropLast_sublist _)),λg hg=>⟨(hall g hg).1,(hall g hg).2,v0 _⟩,I,F⟩ (λq q q=>rfl) ?_ ?_)
 .rintro y r σ ⟨L,gp,num,e,hp,hL,I,F⟩;cases L with
  |nil=>cases e
  |cons g L =>
   injection e with e h_;subst e h_
   obtain⟨O,U,X⟩:=hL g (.head _);obtain⟨p1,p2⟩:=List.pairwise_cons.mp hp;refine⟨_,qQb (c:=0) (o:=num) (by rw[I.e];rfl) F.o1,(qSb (pp:=pp) D O U X I.heap (
    F.in_ (H':=hput σ.h 0 (.cell (some (.int (g:Nat))))) (num':=some (.int (g:Nat))) (i5 _) vA λi hi hc q=>qX λz=>hc num (by rw[z];exact F.o1))).mono ?_⟩
   rintro f σ' ⟨rfl,h1,h2⟩;exact⟨L,g,_,rfl,p2,λx N=>⟨(hL x (.tail _ N)).1,(hL x (.tail _ N)).2.1,m9 (p1 x N)⟩,h1,h2⟩
 .exactλσ q=>qG (vJ (v:=.bool true) (a0:=σ) rfl rfl)
noncomputable def zOz:V->V
 | .str r=>.str (r++"\n")
 |v=>v
theorem zGg(u:LawT l)(h:σ.l.lookup ("text":Str)=some (.str (tx l))):ev (T pp n).c (.comp (.bin .Add "row" (.str "\n")) "row" (.slc (.m "text" "split" (.cons (.str "\n") .nil)) .none (.neg (.int 1))) (.bool true)) σ=.ok (.list (((zI l).map tx).map .str)) σ:=by
 obtain hlen:=u.len;obtain⟨p1,p2⟩:=qFc l;obtain c2:ev (T pp n).c (.m "text" "split" (.cons (.str "\n") .nil)) σ=.ok (.list (((pieces l).map tx).map .str)) σ :=
  qR (σ':={ h:=σ.h,l:=[] }) (qB h) (xX bT zHd) (qE rfl rfl) (by
   rw[bT.bl]
   show bapp "str.split" [.str (tx l),.str "\n"] _=_
   rw[qOy,qGv u.low (b7 hlen pi)];rfl)
 obtain hpn:pieces l≠[]:=lC _ _;obtain hcut:cut (((pieces l).map tx).map V.str) none (some (-1))=((pieces l).dropLast.map tx).map V.str:=by
  conv=>lhs;rw[<- bF hpn,fD,fD]
  exact qRf
 obtain c4:=qGn (σ:=σ) (elt:=.bin .Add "row" (.str "\n")) (x:="row") zOz (
  jU c2 (show ev (T pp n).c .none σ=.ok .none σ from rfl) qEh (show Ov.ok (.list (cut (((pieces l).map tx).map V.str) none (some (-1))))=_ by rw[hcut])) rfl (λv hv=>by
  obtain⟨q,D,rfl⟩:=List.mem_map.mp hv
  obtain⟨r,F,rfl⟩:=List.mem_map.mp D
  exact yS (qB (x:="row") rfl) (rfl) (d3 (by
   rw[jA,(by decide +kernel:("\n":Str).length=1),lG];exact bx (b7 ((p2 r (mM _ F)).1) hlen)))) (by rw[m8,m8,iI,lG];exact ml hlen p1)
 rw[(by
  unfold zI
  rw[iL,iL,iL,iL]
  refine mP λr z=>?_
  show V.str (tx r++"\n")=V.str (tx (r++[10]))
  rw[qGo,nlS];rfl:(((pieces l).dropLast.map tx).map V.str).map zOz=((zI l).map tx).map .str)]at c4
 exact c4
theorem zPh:ofs l 0=0:=by unfold ofs;rw[qPw];rfl
theorem qFs(D:LawT l)(V:σ.l.lookup ("text":Str)=some (.str (tx l)))(F:(("text":Str)==u)=false)(k:∀H' I,Same σ.h H'->σ.h.n+2<=H'.n->PO H' (σ.h.n+1) σ.h.n I->FsP I 4 8 (tx l) 0->Gd (ex rest (T pp 6) (({ σ with h:=H' }:St).set u (.ref (σ.h.n+1)))) Q):Gd (ex (.seq (.a u (.call (.g "Parser") (.cons (.int 4) (.cons (.int 8) .nil)))) (.seq (.expr (.m (.v u) "set_code" (qc "text"))) rest)) (T pp 6) σ) Q:=by
 refine ck (qJq (pp:=pp) (n:=4) (H:=σ.h) (iw:=4) (tw:=8)) λσ1 a1 a2 L N=>gd_sasg (zJ (cx:=(T pp 6).c) (σ:=σ) (as:=.cons (.int 4) (.cons (.int 8) .nil)) (qQ qFp) (qE rfl (qE rfl rfl)) a1) ?_;have J:PO (({ σ with h:=σ1.h }:St).set u (.ref (σ.h.n+1))).h (σ.h.n+1) σ.h.n (fs2 4 8):=a2;obtain⟨X,U,O⟩:=qAp (pp:=pp) (n:=5) (x:=tx l) (by rw[jA];exact b7 D.len pi) (.inr ⟨l.dropLast,by
  obtain hne:l≠[]:=λz=>by have:=D.last;rw[z]at this;cases this
  show l=_
  conv=>lhs;rw[<- bF hne]
  rw[D.nl _ (r5 hne)]⟩) J (fs2_I (iw:=4) (tw:=8))
 refine zC (qR (qB (@qD ({ σ with h:=σ1.h }:St) u (.ref (σ.h.n+1)))) (J.get bT (fs2_I.kx.m pi) (by rfl)) (qE (qB (qA F V)) rfl) U) ?_;rw[O];refine k (hput σ1.h σ.h.n (.dict (setF "study_level" (.int 0) (setF "code" (.str (tx l)) (fs2 4 8))))) _ ⟨?_,λi hi=>(qX (n3 hi)).trans (N i hi)⟩ ?_ (a2.put) ((fs2_I (iw:=4) (tw:=8)).set (tx l))
 .show σ.h.n<=σ1.n;rw[L];exact n5 _ 2
 .show σ.h.n+2<=σ1.n;rw[L];exact i5 _
theorem zBd(hn:ns.length<=63):Gd (ex qQs (T pp 6) (start09 ns)) λf σ'=>f=.ret (.bool true):=by
 obtain s1:(start09 ns).l.lookup ("script":Str)=some (.list (ns.map .int)):=by rfl
 obtain s2:(start09 ns).e=[(("number":Str),0)]:=by rfl
 obtain s4:(start09 ns).n=1:=by rfl
 obtain s6:(start09 ns).o 0=some (.cell none):=by rfl
 generalize start09 ns=σ at s1 s2 s4 s6 ⊢;refine bi (qXg (pp:=pp) (n:=5) (H:=σ.h) hn) λl σ1 U a1 a2=>?_;obtain⟨M,R,c,A,a,hK⟩:=zPu U;obtain hlen:=U.len;obtain hne:l≠[]:=λz=>by have:=U.last;rw[z]at this;exact nomatch this
 rw[zNc];refine gd_sasg (zJ (cx:=(T pp 6).c) (σ:=σ) (as:=.cons "script" .nil) (qQ (x:="_law_text") (by rw[bT.gl];rfl)) (qE (qB s1) rfl) a1) ?_;obtain t1:=@qD ({ σ with h:=σ1.h }:St) "text" (.str (tx l));have t2:(({ σ with h:=σ1.h }:St).set "text" (.str (tx l))).e=[(("number":Str),0)]:=s2;have ah:σ.h.n=1:=s4;obtain V:1<=(({ σ with h:=σ1.h }:St).set "text" (.str (tx l))).n:=ah▸a2.1;obtain t5:(({ σ with h:=σ1.h }:St).set "text" (.str (tx l))).o 0=some (.cell none):=(a2.2 0 (by rw[ah];decide)).trans s6;generalize({ σ with h:=σ1.h }:St).set "text" (.str (tx l))=σ at t1 t2 V t5 ⊢;refine gd_sasg (zGg U t1) ?_;obtain t6:=@qD σ "rows" (.list (((zI l).map tx).map .str));obtain t1:=@qA σ "rows" "text" (.list (((zI l).map tx).map .str)) _ pi t1;obtain t2:(σ.set "rows" (.list (((zI l).map tx).map .str))).e=[(("number":Str),0)]:=t2;replace V:1<=(σ.set "rows" (.list (((zI l).map tx).map .str))).n:=V;obtain t5:(σ.set "rows" (.list (((zI l).map tx).map .str))).o 0=_:=t5;generalize σ.set "rows" (.list (((zI l).map tx).map .str))=σ at t1 t2 V t5 t6 ⊢;obtain⟨y1,y2⟩:=hK.tell.ready hne (b7 hlen pi);have ai:small (tx l):=yT U.low (b7 hlen pi);refine qFs U t1 pi λH' fC Y k2 k3 k4=>?_;obtain u:=@qD ({ σ with h:=H' }:St) "whole" (.ref (σ.h.n+1));obtain D:(({ σ with h:=H' }:St).set "whole" (.ref (σ.h.n+1))).l.lookup ("text":Str)=some (.str (tx l)):=zX2 t1;obtain I:(({ σ with h:=H' }:St).set "whole" (.ref (σ.h.n+1))).l.lookup ("rows":Str)=some (.list (((zI l).map tx).map .str)):=zX2 t6;have F:(({ σ with h:=H' }:St).set "whole" (.ref (σ.h.n+1))).e=[(("number":Str),0)]:=t2;obtain L:(({ σ with h:=H' }:St).set "whole" (.ref (σ.h.n+1))).o 0=some (.cell none):=(Y.2 0 (g9 pi V)).trans t5;obtain u6:Ready (({ σ with h:=H' }:St).set "whole" (.ref (σ.h.n+1))).h (σ.h.n+1) σ.h.n fC 4 8 (tx l) R c:=⟨k3,k2,fO k2,k4,ai,y1,y2⟩
 have u7:1<=σ.h.n:=V;obtain J:1<=(({ σ with h:=H' }:St).set "whole" (.ref (σ.h.n+1))).n:=b7 V Y.1;generalize b0:σ.h.n=dW at u D I F L u6 u7 J ⊢;generalize({ σ with h:=H' }:St).set "whole" (.ref (dW+1))=σ at u D I F L u6 J ⊢;generalize dW+1=kW at u u6;obtain⟨σ1,jD,a1,a2,a3,a4,a5,fW,a6⟩:=qJt (pp:=pp) (n:=2) (s:=0) u6 hK.ans hK.brk;refine gd_sasg (zJ (cx:=(T pp 6).c) (σ:=σ) (as:=.cons "whole" (.cons (.int 0) .nil)) (qQ zBp) (qE (qB u) (qE rfl rfl)) a1) ?_;obtain O:=@qD ({ σ with h:=σ1.h }:St) "due" (.ref jD);obtain u:(({ σ with h:=σ1.h }:St).set "due" (.ref jD)).l.lookup ("whole":Str)=some (.ref kW):=zX2 u;obtain D:(({ σ with h:=σ1.h }:St).set "due" (.ref jD)).l.lookup ("text":Str)=some (.str (tx l)):=zX2 D;obtain I:(({ σ with h:=σ1.h }:St).set "due" (.ref jD)).l.lookup ("rows":Str)=some (.list (((zI l).map tx).map .str)):=zX2 I;obtain F:(({ σ with h:=σ1.h }:St).set "due" (.ref jD)).e=[(("number":Str),0)]:=F;obtain L:(({ σ with h:=σ1.h }:St).set "due" (.ref jD)).o 0=some (.cell none):=(a2.same 0 (g9 pi J) (n3 u7)).trans L;have X:Told (({ σ with h:=σ1.h }:St).set "due" (.ref jD)).h kW dW 4 8 (tx l) R c A.r2 fW:=a6;have v2:(({ σ with h:=σ1.h }:St).set "due" (.ref jD)).o jD=some (.list (toldL c A 0++exL A.ex)):=a5;have Z:jD<(({ σ with h:=σ1.h }:St).set "due" (.ref jD)).n:=a4;obtain J:1<=(({ σ with h:=σ1.h }:St).set "due" (.ref jD)).n:=b7 J a2.n;generalize({ σ with h:=σ1.h }:St).set "due" (.ref jD)=σ at u D I F L J O X v2 Z ⊢;obtain⟨jG,hj,ho,b4,S⟩:=X.st;refine gd_sasg (qK (qB u) (X.po.fld bT (f:="goodlines") pi hj.f2.good rfl)) ?_;obtain w0:=@qD σ "good" (.ref jG);obtain u:=@qA σ "good" "whole" (.ref jG) _ pi u;obtain D:=@qA σ "good" "text" (.ref jG) _ pi D;obtain I:=@qA σ "good" "rows" (.ref jG) _ pi I;obtain O:=@qA σ "good" "due" (.ref jG) _ pi O;replace F:(σ.set "good" (.ref jG)).e=_:=F;replace L:(σ.set "good" (.ref jG)).o 0=_:=L;replace J:1<=(σ.set "good" (.ref jG)).n:=J;have v4:PO (σ.set "good" (.ref jG)).h kW dW fW:=X.po;have v5:kW<(σ.set "good" (.ref jG)).n/\dW<(σ.set "good" (.ref jG)).n:=⟨X.k,X.d⟩
 replace v2:(σ.set "good" (.ref jG)).o jD=_:=v2;replace Z:jD<(σ.set "good" (.ref jG)).n:=Z;replace ho:(σ.set "good" (.ref jG)).o jG=some (.list (natsV R)):=ho;replace S:jG<(σ.set "good" (.ref jG)).n:=S;generalize σ.set "good" (.ref jG)=σ at u D I F L J O v2 Z v4 v5 w0 ho S ⊢;refine qFs U D pi λH' fC Y k2 k3 k4=>?_;have w1:=@qD ({ σ with h:=H' }:St) "walker" (.ref (σ.h.n+1));replace u:(({ σ with h:=H' }:St).set "walker" (.ref (σ.h.n+1))).l.lookup ("whole":Str)=_:=zX2 u;replace D:(({ σ with h:=H' }:St).set "walker" (.ref (σ.h.n+1))).l.lookup ("text":Str)=_:=zX2 D;replace I:(({ σ with h:=H' }:St).set "walker" (.ref (σ.h.n+1))).l.lookup ("rows":Str)=_:=zX2 I;replace O:(({ σ with h:=H' }:St).set "walker" (.ref (σ.h.n+1))).l.lookup ("due":Str)=_:=zX2 O;replace w0:(({ σ with h:=H' }:St).set "walker" (.ref (σ.h.n+1))).l.lookup ("good":Str)=_:=zX2 w0;replace F:(({ σ with h:=H' }:St).set "walker" (.ref (σ.h.n+1))).e=_:=F;obtain⟨σ2,b1,b2,fK,b3⟩:=qKf (pp:=pp) (n:=4) (⟨k3,k2,fO k2,k4,ai,y1,y2⟩);refine zC (qR (qB w1) (k3.get bT (k4.kx.m pi) (by rfl)) (rfl) b1) ?_;have old:∀i,i<σ.n->σ2.h.o i=σ.o i:=λi hi=>(b2.same i (g9 hi Y.1) (n3 hi)).trans (Y.2 i hi);have N:σ.n<=σ2.h.n:=b7 Y.1 b2.n;generalize({ σ with h:=H' }:St).set "walker" (.ref (σ.h.n+1))=τ at u D I F O w0 w1 ⊢;refine gd_sasg (v:=.int ((0:Nat):Int)) (a0:={ τ with h:=σ2.h }) rfl ?_;refine zAt (kW:=kW) (dW:=dW) (jD:=jD) (jG:=jG) (kK:=σ.h.n+1) (dK:=σ.h.n) hK ?_ (by
  refine⟨(old 0 (g9 pi J)).trans L,g9 J N,⟨fW,v4.in_ (old kW v5.1) (old dW v5.2),hj⟩,g9 v5.1 N,g9 v5.2 N,(old jG S).trans ho,g9 S N,(old jD Z).trans v2,g9 Z N,⟨fK,by rw[vD];exact b3⟩,n3 v5.2⟩)
 rw[zPh];exact⟨F,zX2 D,zX2 I,zX2 u,zX2 O,zX2 w0,zX2 w1,qD⟩
theorem plain06:qRu:=λp ns u=>by
 obtain⟨f,σ',e,rfl⟩:=zBd (pp:=p) u
 exact⟨σ',e⟩
end
end Mine.Lake.L09
end
set_option maxRecDepth 100000 in
theorem PySem.Challenge.cw_dm0167_06_holds : PySem.Challenge.rw_dm0167_06.Holds :=
 Mine.Lake.L09.joined Mine.Lake.L09.plain06
