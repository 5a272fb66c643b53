import PyProof.Rows.All
import OpenK.KLine
import KE.KLam
import PyProof.IsiH_list
import PyProof.MeetsSeq2
import PyProof.RulesDelMore
import PyProof.WalksMore
import PyProof.Rows.SumAny
import PyProof.P3Eq
import PySem.Challenge.RW_dm0167_02
set_option Elab.async false
set_option linter.all false
set_option bootstrap.genMatcherCode false
set_option genSizeOf false
set_option backward.match.sparseCases false
set_option backward.eqns.nonrecursive false
set_option compiler.extract_closed false
set_option tactic.hygienic false
set_option genInjectivity false
set_option genCtorIdx false
set_option genSizeOfSpec false
set_option maxRecDepth 100000
set_option maxHeartbeats 8000000
local macro_rules
  | `(tactic| lia) => `(tactic| lia -abstractProof)
theorem Mine.Lake.zN1 {α : Type _} {a : α} {p : Prop} (h : none = some a) : p := nomatch h
theorem Mine.Lake.bC {p : Prop} (h : ¬¬p) : p := Classical.byContradiction h
theorem Mine.Lake.zT1 {p : Prop} (h : true = false) : p := nomatch h
theorem Mine.Lake.zF1 {p : Prop} (h : false = true) : p := nomatch h
theorem Mine.Lake.zX1 {c:Prop} [Decidable c] {t:Sort _} {a b:t} (h:¬c:=by decide):(if c then a else b)=b:=if_neg h
noncomputable section
open PySem.Challenge (pw_dm0167_02)
open PySem.W.Fast (te10110043849684766642 te10274390034422433532 te10295753902157049106 te1066825118222455980 te11892475500146522536 te12563942051412417395 te14082659384304107361 te14289696077712309145 te1435165496053646825 te14364793385576792824 te14374325043358763698 te15667345088766844465 te4187177175401517315 te5923862056798008813 te8920871248978507458 tw10110043849684766642 tw10274390034422433532 tw10295753902157049106 tw1066825118222455980 tw11892475500146522536 tw12563942051412417395 tw14082659384304107361 tw14289696077712309145 tw1435165496053646825 tw14364793385576792824 tw14374325043358763698 tw15667345088766844465)
namespace MineTop
open PySem PySem.W PyProof.Rows
theorem zPs (h:PySem.Challenge.rw_dm0167_02.row.Holds):PySem.Challenge.rw_dm0167_02.Holds :=
 holds_law (by
  unfold OpenLaw.wellSaid OpenRow.wellSaid OpenRow.partSaid looksOpen
  repeat' with_reducible refine look_both ?_ ?_
  all_goals kernel_rfl) λ _=>h
noncomputable def nth:List Stmt->Nat->Stmt
 | [],_=>.Return none ⟨0,0,0,0⟩
 | a::_,0=>a
 | _::r,n+1=>nth r n
noncomputable def cls:Stmt->List Stmt
 | .ClassDef _ _ _ b ..=>b
 | _=>[]
noncomputable def zQb:Stmt->FuncData
 | .FunctionDef n ps b _ _ _ sc _ _ _=>⟨n,n,ps,.stmts b,sc,0,[],.none,.none,.none,.none,none,.none,.none,0⟩
 | _=>default
noncomputable def odds:List Obj->List Obj
 | []=>[]
 | [a]=>[a]
 | a::_::r=>a::odds r
def bt:Nat->List Obj->BT
 | 0,_=>.nil
 | _+1,[]=>.nil
 | n+1,o::r=>.node o (bt n (odds r)) (bt n (odds r.tail))
noncomputable def Lz (s:Str):String:=if h:S.low s.cps.toList=true then S.litE (s.cps.toList.map UInt8.ofNat) s.cps.toList h rfl else ""
noncomputable abbrev Iz (n:Nat):Value:=.int (.ofNat n) 0
noncomputable abbrev Jz (n m:Nat):Value:=.int (.ofNat n) m
abbrev Fz (x:Stmt) (a b:Str):Data:=.func { zQb x with name:=a,qualname:=b,globals:=0,closure:=[],defaults:=.none,kwdefaults:=.none,doc:=.none,pyModule:=.none,annotations:=none,code:=.none,closureTuple:=.none,builtins:=0 }
abbrev Gz (x:Stmt) (a b:Str) (m c:Value):Data:=.func { zQb x with name:=a,qualname:=b,globals:=3,closure:=[],defaults:=.none,kwdefaults:=.none,doc:=.none,pyModule:=m,annotations:=none,code:=c,closureTuple:=.none,builtins:=0 }
noncomputable abbrev kh (P:Params) (x:Str):Int:=PySem.PyData.keyHash P x
abbrev zX0 (P : Params) (x : Str) (n : Nat) (v : Value) : DictEntry := ⟨kh P x,.str x n,v⟩
noncomputable def TB:List Stmt:=pw_dm0167_02.main.body
noncomputable def s0:Str:="__name__"
noncomputable def s2:Str:="__doc__"
noncomputable def s3:Str:="__package__"
noncomputable def s4:Str:="__loader__"
noncomputable def s5:Str:="__spec__"
noncomputable def s16:Str:="compile"
noncomputable def qSw:Str:="copyright"
noncomputable def qSv:Str:="__main__"
noncomputable def jU:Str:="_sre"
noncomputable def qBs:Str:="__annotations__"
noncomputable def qBr:Str:="__builtins__"
noncomputable def qBq:Str:="__file__"
noncomputable def qR:Str:="/claim/cut.py"
noncomputable def qBp:Str:="__cached__"
noncomputable def zEl:Str:="<module>"
noncomputable def zEk:Str:=⟨⟨[]⟩⟩
noncomputable def zEj:Str:="template"
noncomputable def zEi:Str:="getcodesize"
noncomputable def zEh:Str:="ascii_iscased"
noncomputable def zEg:Str:="unicode_iscased"
noncomputable def zEf:Str:="ascii_tolower"
noncomputable def zEe:Str:="unicode_tolower"
noncomputable def zEd:Str:="MAGIC"
noncomputable def zEc:Str:="CODESIZE"
noncomputable def zEb:Str:="MAXREPEAT"
noncomputable def zEa:Str:="MAXGROUPS"
noncomputable def qBo:Str:="__module__"
noncomputable def qBn:Str:="__firstlineno__"
noncomputable def qBm:Str:="__static_attributes__"
noncomputable def qBl:Str:="__dict__"
noncomputable def qBk:Str:="__weakref__"
noncomputable def qHm:Str:="__init__"
noncomputable def kK:Str:="cpy313.idlelib.pyparse"
noncomputable def wZ:Str:="_wall"
noncomputable def qDc:Str:="_twin_re_1"
noncomputable def qFd:Str:="C_NONE"
noncomputable def qFc:Str:="C_BACKSLASH"
noncomputable def qFb:Str:="C_STRING_FIRST_LINE"
noncomputable def qFa:Str:="C_STRING_NEXT_LINES"
noncomputable def qEz:Str:="C_BRACKET"
noncomputable def qHl:Str:="_synchre"
noncomputable def yL:Str:="ParseMap"
noncomputable def zDz:Str:="__qualname__"
noncomputable def qNk:Str:="__missing__"
noncomputable def yK:Str:="self"
noncomputable def qNj:Str:="trans"
noncomputable def qBj:Str:="<genexpr>"
noncomputable def qSu:Str:=".0"
noncomputable def qSt:Str:="c"
noncomputable def qDb:Str:="Parser"
noncomputable def qNi:Str:="set_code"
noncomputable def qNh:Str:="find_good_parse_start"
noncomputable def qNg:Str:="set_lo"
noncomputable def qNf:Str:="_study1"
noncomputable def qNe:Str:="get_continuation_type"
noncomputable def qNd:Str:="_study2"
noncomputable def qNc:Str:="compute_bracket_indent"
noncomputable def qNb:Str:="get_num_lines_in_stmt"
noncomputable def qNa:Str:="compute_backslash_indent"
noncomputable def qMz:Str:="get_base_indent_string"
noncomputable def qMy:Str:="is_block_opener"
noncomputable def qMx:Str:="is_block_closer"
noncomputable def qMw:Str:="get_last_stmt_bracketing"
noncomputable def qSs:Str:="law_dm0167_02"
noncomputable def qEy:Str:="_law_text"
noncomputable def qEx:Str:="_law_read"
noncomputable def qEw:Str:="_law_first_word"
noncomputable def qEv:Str:="_law_number"
noncomputable def qEu:Str:="law"
noncomputable def t0:String:=SL.s14018661285674007319x4
noncomputable def t61:String:=SL.s9222952809800978799x4
noncomputable def t63:String:=SL.s2742458400755230247x6
noncomputable def t64:String:=SL.s1438033511350832697x5
noncomputable def t70:String:=SL.s4290257624100764138x5
noncomputable def t71:String:=SL.s2766695959194262286x5
noncomputable def t72:String:=SL.s17162191345867700912x4
noncomputable def t82:String:=SL.s9001593270443806431x14
noncomputable def t89:String:=SL.s10852414792293593619x7
noncomputable def t93:String:=SL.s5991306692159431302x13
noncomputable def qRr:String:=SL.s7097527257260152453x26
noncomputable def zKp:String:=SL.s6658869562736209489x6
noncomputable def xX:String:=SL.s5856160107412720595x4
noncomputable def qMi:String:=SL.s658472552662922059x5
noncomputable def qJv:String:=SL.s14755015743595814543x17
noncomputable def zDb:String:=SL.s6511155373996960695x17
noncomputable def zDa:String:=SL.s12411053484034534018x21
noncomputable def zCz:String:=SL.s10220274742760427390x26
noncomputable def vM:String:=SL.s7174869446012820540x8
noncomputable def qEs:String:=SL.s15992201931430999065x14
noncomputable def qWi:String:=SL.s11030030927630378310x26
noncomputable def zKo:String:=SL.s7929333955151719606x9
def i3:Value:=(Iz 3)
def i1:Value:=(Iz 1)
def i0:Value:=(Iz 0)
def i13:Value:=(Iz 13)
def kF:Value:=(Iz 276)
def i2:Value:=(Iz 2)
def i4:Value:=(Iz 4)
def i16:Value:=(Iz 16)
def i9:Value:=(Iz 9)
def qAn:Value:=(Iz 101)
def i15:Value:=(Iz 15)
def e0:DictEntry:=⟨(.ofNat 0),(Jz 0 553),(Jz 120 552)⟩
def e1:DictEntry:=⟨(.ofNat 1),(Jz 1 555),(Jz 120 552)⟩
def e2:DictEntry:=⟨(.ofNat 2),(Jz 2 557),(Jz 120 552)⟩
def e3:DictEntry:=⟨(.ofNat 3),(Jz 3 559),(Jz 120 552)⟩
def e4:DictEntry:=⟨(.ofNat 4),(Jz 4 561),(Jz 120 552)⟩
def e5:DictEntry:=⟨(.ofNat 5),(Jz 5 563),(Jz 120 552)⟩
def e6:DictEntry:=⟨(.ofNat 6),(Jz 6 565),(Jz 120 552)⟩
def e7:DictEntry:=⟨(.ofNat 7),(Jz 7 567),(Jz 120 552)⟩
def e8:DictEntry:=⟨(.ofNat 8),(Jz 8 569),(Jz 120 552)⟩
def e9:DictEntry:=⟨(.ofNat 9),(Jz 9 571),(Jz 120 552)⟩
def e10:DictEntry:=⟨(.ofNat 10),(Jz 10 573),(Jz 120 552)⟩
def e11:DictEntry:=⟨(.ofNat 11),(Jz 11 575),(Jz 120 552)⟩
def e12:DictEntry:=⟨(.ofNat 12),(Jz 12 577),(Jz 120 552)⟩
def e13:DictEntry:=⟨(.ofNat 13),(Jz 13 579),(Jz 120 552)⟩
def e14:DictEntry:=⟨(.ofNat 14),(Jz 14 581),(Jz 120 552)⟩
def e15:DictEntry:=⟨(.ofNat 15),(Jz 15 583),(Jz 120 552)⟩
def e16:DictEntry:=⟨(.ofNat 16),(Jz 16 585),(Jz 120 552)⟩
def e17:DictEntry:=⟨(.ofNat 17),(Jz 17 587),(Jz 120 552)⟩
def e18:DictEntry:=⟨(.ofNat 18),(Jz 18 589),(Jz 120 552)⟩
def e19:DictEntry:=⟨(.ofNat 19),(Jz 19 591),(Jz 120 552)⟩
def e20:DictEntry:=⟨(.ofNat 20),(Jz 20 593),(Jz 120 552)⟩
def e21:DictEntry:=⟨(.ofNat 21),(Jz 21 595),(Jz 120 552)⟩
def e22:DictEntry:=⟨(.ofNat 22),(Jz 22 597),(Jz 120 552)⟩
def e23:DictEntry:=⟨(.ofNat 23),(Jz 23 599),(Jz 120 552)⟩
def e24:DictEntry:=⟨(.ofNat 24),(Jz 24 601),(Jz 120 552)⟩
def e25:DictEntry:=⟨(.ofNat 25),(Jz 25 603),(Jz 120 552)⟩
def e26:DictEntry:=⟨(.ofNat 26),(Jz 26 605),(Jz 120 552)⟩
def e27:DictEntry:=⟨(.ofNat 27),(Jz 27 607),(Jz 120 552)⟩
def e28:DictEntry:=⟨(.ofNat 28),(Jz 28 609),(Jz 120 552)⟩
def e29:DictEntry:=⟨(.ofNat 29),(Jz 29 611),(Jz 120 552)⟩
def e30:DictEntry:=⟨(.ofNat 30),(Jz 30 613),(Jz 120 552)⟩
def e31:DictEntry:=⟨(.ofNat 31),(Jz 31 615),(Jz 120 552)⟩
def e32:DictEntry:=⟨(.ofNat 32),(Jz 32 617),(Jz 120 552)⟩
def e33:DictEntry:=⟨(.ofNat 33),(Jz 33 619),(Jz 120 552)⟩
def e34:DictEntry:=⟨(.ofNat 34),(Jz 34 621),(Jz 120 552)⟩
def e35:DictEntry:=⟨(.ofNat 35),(Jz 35 623),(Jz 120 552)⟩
def e36:DictEntry:=⟨(.ofNat 36),(Jz 36 625),(Jz 120 552)⟩
def e37:DictEntry:=⟨(.ofNat 37),(Jz 37 627),(Jz 120 552)⟩
def e38:DictEntry:=⟨(.ofNat 38),(Jz 38 629),(Jz 120 552)⟩
def e39:DictEntry:=⟨(.ofNat 39),(Jz 39 631),(Jz 120 552)⟩
def e40:DictEntry:=⟨(.ofNat 40),(Jz 40 633),(Jz 120 552)⟩
def e41:DictEntry:=⟨(.ofNat 41),(Jz 41 635),(Jz 120 552)⟩
def e42:DictEntry:=⟨(.ofNat 42),(Jz 42 637),(Jz 120 552)⟩
def e43:DictEntry:=⟨(.ofNat 43),(Jz 43 639),(Jz 120 552)⟩
def e44:DictEntry:=⟨(.ofNat 44),(Jz 44 641),(Jz 120 552)⟩
def e45:DictEntry:=⟨(.ofNat 45),(Jz 45 643),(Jz 120 552)⟩
def e46:DictEntry:=⟨(.ofNat 46),(Jz 46 645),(Jz 120 552)⟩
def e47:DictEntry:=⟨(.ofNat 47),(Jz 47 647),(Jz 120 552)⟩
def e48:DictEntry:=⟨(.ofNat 48),(Jz 48 649),(Jz 120 552)⟩
def e49:DictEntry:=⟨(.ofNat 49),(Jz 49 651),(Jz 120 552)⟩
def e50:DictEntry:=⟨(.ofNat 50),(Jz 50 653),(Jz 120 552)⟩
def e51:DictEntry:=⟨(.ofNat 51),(Jz 51 655),(Jz 120 552)⟩
def e52:DictEntry:=⟨(.ofNat 52),(Jz 52 657),(Jz 120 552)⟩
def e53:DictEntry:=⟨(.ofNat 53),(Jz 53 659),(Jz 120 552)⟩
def e54:DictEntry:=⟨(.ofNat 54),(Jz 54 661),(Jz 120 552)⟩
def e55:DictEntry:=⟨(.ofNat 55),(Jz 55 663),(Jz 120 552)⟩
def e56:DictEntry:=⟨(.ofNat 56),(Jz 56 665),(Jz 120 552)⟩
def e57:DictEntry:=⟨(.ofNat 57),(Jz 57 667),(Jz 120 552)⟩
def e58:DictEntry:=⟨(.ofNat 58),(Jz 58 669),(Jz 120 552)⟩
def e59:DictEntry:=⟨(.ofNat 59),(Jz 59 671),(Jz 120 552)⟩
def e60:DictEntry:=⟨(.ofNat 60),(Jz 60 673),(Jz 120 552)⟩
def e61:DictEntry:=⟨(.ofNat 61),(Jz 61 675),(Jz 120 552)⟩
def e62:DictEntry:=⟨(.ofNat 62),(Jz 62 677),(Jz 120 552)⟩
def e63:DictEntry:=⟨(.ofNat 63),(Jz 63 679),(Jz 120 552)⟩
def e64:DictEntry:=⟨(.ofNat 64),(Jz 64 681),(Jz 120 552)⟩
def e65:DictEntry:=⟨(.ofNat 65),(Jz 65 683),(Jz 120 552)⟩
def e66:DictEntry:=⟨(.ofNat 66),(Jz 66 685),(Jz 120 552)⟩
def e67:DictEntry:=⟨(.ofNat 67),(Jz 67 687),(Jz 120 552)⟩
def e68:DictEntry:=⟨(.ofNat 68),(Jz 68 689),(Jz 120 552)⟩
def e69:DictEntry:=⟨(.ofNat 69),(Jz 69 691),(Jz 120 552)⟩
def e70:DictEntry:=⟨(.ofNat 70),(Jz 70 693),(Jz 120 552)⟩
def e71:DictEntry:=⟨(.ofNat 71),(Jz 71 695),(Jz 120 552)⟩
def e72:DictEntry:=⟨(.ofNat 72),(Jz 72 697),(Jz 120 552)⟩
def e73:DictEntry:=⟨(.ofNat 73),(Jz 73 699),(Jz 120 552)⟩
def e74:DictEntry:=⟨(.ofNat 74),(Jz 74 701),(Jz 120 552)⟩
def e75:DictEntry:=⟨(.ofNat 75),(Jz 75 703),(Jz 120 552)⟩
def e76:DictEntry:=⟨(.ofNat 76),(Jz 76 705),(Jz 120 552)⟩
def e77:DictEntry:=⟨(.ofNat 77),(Jz 77 707),(Jz 120 552)⟩
def e78:DictEntry:=⟨(.ofNat 78),(Jz 78 709),(Jz 120 552)⟩
def e79:DictEntry:=⟨(.ofNat 79),(Jz 79 711),(Jz 120 552)⟩
def e80:DictEntry:=⟨(.ofNat 80),(Jz 80 713),(Jz 120 552)⟩
def e81:DictEntry:=⟨(.ofNat 81),(Jz 81 715),(Jz 120 552)⟩
def e82:DictEntry:=⟨(.ofNat 82),(Jz 82 717),(Jz 120 552)⟩
def e83:DictEntry:=⟨(.ofNat 83),(Jz 83 719),(Jz 120 552)⟩
def e84:DictEntry:=⟨(.ofNat 84),(Jz 84 721),(Jz 120 552)⟩
def e85:DictEntry:=⟨(.ofNat 85),(Jz 85 723),(Jz 120 552)⟩
def e86:DictEntry:=⟨(.ofNat 86),(Jz 86 725),(Jz 120 552)⟩
def e87:DictEntry:=⟨(.ofNat 87),(Jz 87 727),(Jz 120 552)⟩
def e88:DictEntry:=⟨(.ofNat 88),(Jz 88 729),(Jz 120 552)⟩
def e89:DictEntry:=⟨(.ofNat 89),(Jz 89 731),(Jz 120 552)⟩
def e90:DictEntry:=⟨(.ofNat 90),(Jz 90 733),(Jz 120 552)⟩
def e91:DictEntry:=⟨(.ofNat 91),(Jz 91 735),(Jz 120 552)⟩
def e92:DictEntry:=⟨(.ofNat 92),(Jz 92 737),(Jz 120 552)⟩
def e93:DictEntry:=⟨(.ofNat 93),(Jz 93 739),(Jz 120 552)⟩
def e94:DictEntry:=⟨(.ofNat 94),(Jz 94 741),(Jz 120 552)⟩
def e95:DictEntry:=⟨(.ofNat 95),(Jz 95 743),(Jz 120 552)⟩
def e96:DictEntry:=⟨(.ofNat 96),(Jz 96 745),(Jz 120 552)⟩
def e97:DictEntry:=⟨(.ofNat 97),(Jz 97 747),(Jz 120 552)⟩
def e98:DictEntry:=⟨(.ofNat 98),(Jz 98 749),(Jz 120 552)⟩
def e99:DictEntry:=⟨(.ofNat 99),(Jz 99 751),(Jz 120 552)⟩
def qUs:DictEntry:=⟨(.ofNat 100),(Jz 100 753),(Jz 120 552)⟩
def qUr:DictEntry:=⟨(.ofNat 101),(Jz 101 755),(Jz 120 552)⟩
def qUq:DictEntry:=⟨(.ofNat 102),(Jz 102 757),(Jz 120 552)⟩
def qUp:DictEntry:=⟨(.ofNat 103),(Jz 103 759),(Jz 120 552)⟩
def qUo:DictEntry:=⟨(.ofNat 104),(Jz 104 761),(Jz 120 552)⟩
def qUn:DictEntry:=⟨(.ofNat 105),(Jz 105 763),(Jz 120 552)⟩
def qUm:DictEntry:=⟨(.ofNat 106),(Jz 106 765),(Jz 120 552)⟩
def qUl:DictEntry:=⟨(.ofNat 107),(Jz 107 767),(Jz 120 552)⟩
def qUk:DictEntry:=⟨(.ofNat 108),(Jz 108 769),(Jz 120 552)⟩
def qUj:DictEntry:=⟨(.ofNat 109),(Jz 109 771),(Jz 120 552)⟩
def qUi:DictEntry:=⟨(.ofNat 110),(Jz 110 773),(Jz 120 552)⟩
def qUh:DictEntry:=⟨(.ofNat 111),(Jz 111 775),(Jz 120 552)⟩
def zBf:DictEntry:=⟨(.ofNat 112),(Jz 112 777),(Jz 120 552)⟩
def zBe:DictEntry:=⟨(.ofNat 113),(Jz 113 779),(Jz 120 552)⟩
def zBd:DictEntry:=⟨(.ofNat 114),(Jz 114 781),(Jz 120 552)⟩
def zBc:DictEntry:=⟨(.ofNat 115),(Jz 115 783),(Jz 120 552)⟩
def zBb:DictEntry:=⟨(.ofNat 116),(Jz 116 785),(Jz 120 552)⟩
def zBa:DictEntry:=⟨(.ofNat 117),(Jz 117 787),(Jz 120 552)⟩
def zAz:DictEntry:=⟨(.ofNat 118),(Jz 118 789),(Jz 120 552)⟩
def zAy:DictEntry:=⟨(.ofNat 119),(Jz 119 791),(Jz 120 552)⟩
def zAx:DictEntry:=⟨(.ofNat 120),(Jz 120 793),(Jz 120 552)⟩
def zAw:DictEntry:=⟨(.ofNat 121),(Jz 121 795),(Jz 120 552)⟩
def zAv:DictEntry:=⟨(.ofNat 122),(Jz 122 797),(Jz 120 552)⟩
def zAu:DictEntry:=⟨(.ofNat 124),(Jz 124 801),(Jz 120 552)⟩
def zAt:DictEntry:=⟨(.ofNat 126),(Jz 126 805),(Jz 120 552)⟩
def zAs:DictEntry:=⟨(.ofNat 127),(Jz 127 807),(Jz 120 552)⟩
def zOd:DictEntry:=⟨(.ofNat 40),(Jz 40 633),(Jz 40 826)⟩
def zOc:DictEntry:=⟨(.ofNat 91),(Jz 91 735),(Jz 40 838)⟩
def zOb:DictEntry:=⟨(.ofNat 123),(Jz 123 799),(Jz 40 832)⟩
def o0 (P:Params):Obj:=⟨(.type t0),none,(.dict #[(zX0 P s0 1 (.str "builtins" 160)),(zX0 P s2 2 (.builtin (Lz "builtins.__doc__:str#opaque"))),(zX0 P s3 3 (.builtin (Lz "builtins.__package__:str#opaque"))),(zX0 P s4 4 (.builtin (Lz "builtins.__loader__:shared#opaque"))),(zX0 P s5 5 (.builtin (SL.s11665532747177232413x24))),(zX0 P "__build_class__" 6 (.builtin (SL.s15183661809925369436x15))),(zX0 P "__import__" 7 (.builtin (SL.s13915890719876406383x10))),(zX0 P "abs" 8 (.builtin (SL.s13459172003223722735x3))),(zX0 P "all" 9 (.builtin (SL.s10557405761357834076x3))),(zX0 P "any" 10 (.builtin (SL.s4233737765568776869x3))),(zX0 P "ascii" 11 (.builtin (SL.s2508922471967985374x5))),(zX0 P "bin" 12 (.builtin (SL.s15574269061696679450x3))),(zX0 P "breakpoint" 13 (.builtin (SL.s6016482663378992977x10))),(zX0 P "callable" 14 (.builtin (SL.s5596568736180474577x8))),(zX0 P "chr" 15 (.builtin (SL.s2839554839881490554x3))),(zX0 P s16 16 (.builtin (SL.s725004073602090463x7))),(zX0 P "delattr" 17 (.builtin (SL.s9436932552931045734x7))),(zX0 P "dir" 18 (.builtin (SL.s2754603736356183583x3))),(zX0 P "divmod" 19 (.builtin (SL.s15185746759980889043x6))),(zX0 P "eval" 20 (.builtin (SL.s8192189862530294059x4))),(zX0 P "exec" 21 (.builtin (SL.s7038307821325472102x4))),(zX0 P "format" 22 (.builtin (SL.s5662562618415449548x6))),(zX0 P "getattr" 23 (.builtin (SL.s15281542589158584767x7))),(zX0 P "globals" 24 (.builtin (SL.s17651547275483570877x7))),(zX0 P "hasattr" 25 (.builtin (SL.s4036449017235975746x7))),(zX0 P "hash" 26 (.builtin (SL.s8879979712987360175x4))),(zX0 P "hex" 27 (.builtin (SL.s1801250619170735830x3))),(zX0 P "id" 28 (.builtin (SL.s17659931425627118568x2))),(zX0 P "input" 29 (.builtin (SL.s6063217899685152688x5))),(zX0 P "isinstance" 30 (.builtin (SL.s8008927332132565319x10))),(zX0 P "issubclass" 31 (.builtin (SL.s3544116645089599534x10))),(zX0 P "iter" 32 (.builtin (SL.s13761710972054866084x4))),(zX0 P "aiter" 33 (.builtin (SL.s12896375587409280029x5))),(zX0 P "len" 34 (.builtin (SL.s13014049009108672802x3))),(zX0 P "locals" 35 (.builtin (SL.s13935586738268321596x6))),(zX0 P "max" 36 (.builtin (SL.s8200498257699607233x3))),(zX0 P "min" 37 (.builtin (SL.s14114244577727609259x3))),(zX0 P "next" 38 (.builtin (SL.s1499430450269397089x4))),(zX0 P "anext" 39 (.builtin (SL.s8755793994789770505x5))),(zX0 P "oct" 40 (.builtin (SL.s15725212667919936108x3))),(zX0 P "ord" 41 (.builtin (SL.s15791221867095933363x3))),(zX0 P "pow" 42 (.builtin (SL.s81309575031448614x3))),(zX0 P "print" 43 (.builtin (SL.s8069831620301644142x5))),(zX0 P "repr" 44 (.builtin (SL.s10061844253413749634x4))),(zX0 P "round" 45 (.builtin (SL.s9496514870978017513x5))),(zX0 P "setattr" 46 (.builtin (SL.s8899691144933366716x7))),(zX0 P "sorted" 47 (.builtin (SL.s15201008993051130160x6))),(zX0 P "sum" 48 (.builtin (SL.s741896355592496720x3))),(zX0 P "vars" 49 (.builtin (SL.s17925004256654032244x4))),(zX0 P "None" 50 .none),(zX0 P "Ellipsis" 51 .ellipsis),(zX0 P "NotImplemented" 52 .notImplemented),(zX0 P "False" 53 (.bool false)),(zX0 P "True" 54 (.bool true)),(zX0 P "bool" 55 (.type (SL.s11695548795398191787x4))),(zX0 P "memoryview" 56 (.type (SL.s4156966113859768872x10))),(zX0 P "bytearray" 57 (.type (SL.s9501651726347032510x9))),(zX0 P "bytes" 58 (.type (SL.s15722918466584999320x5))),(zX0 P "classmethod" 59 (.type (SL.s591115383303110208x11))),(zX0 P "complex" 60 (.type (SL.s15721156781594690315x7))),(zX0 P "dict" 61 (.type t0)),(zX0 P "enumerate" 62 (.type (SL.s14340494229221121180x9))),(zX0 P "filter" 63 (.type (SL.s13429844117177748173x6))),(zX0 P "float" 64 (.type (SL.s16463266125957815391x5))),(zX0 P "frozenset" 65 (.type (SL.s4922535414793169389x9))),(zX0 P "property" 66 (.type (SL.s8101838861749082086x8))),(zX0 P "int" 67 (.type (SL.s7066276694103001551x3))),(zX0 P "list" 68 (.type t61)),(zX0 P "map" 69 (.type (SL.s462964344163437139x3))),(zX0 P "object" 70 (.type t63)),(zX0 P "range" 71 (.type t64)),(zX0 P "reversed" 72 (.type (SL.s14365286008749172514x8))),(zX0 P "set" 73 (.type (SL.s3642769012341782148x3))),(zX0 P "slice" 74 (.type (SL.s4674234679698826739x5))),(zX0 P "staticmethod" 75 (.type (SL.s16656946322747308186x12))),(zX0 P "str" 76 (.type (SL.s10796804682411823810x3))),(zX0 P "super" 77 (.type t70)),(zX0 P "tuple" 78 (.type t71)),(zX0 P "type" 79 (.type t72)),(zX0 P "zip" 80 (.type (SL.s14339709457334898076x3))),(zX0 P "__debug__" 81 (.bool true)),(zX0 P "BaseException" 82 (.type (SL.s4278001404047624695x13))),(zX0 P "BaseExceptionGroup" 83 (.type (SL.s6585700554429387442x18))),(zX0 P "Exception" 84 (.type (SL.s5946037652744460706x9))),(zX0 P "GeneratorExit" 85 (.type (SL.s7410770068591931388x13))),(zX0 P "KeyboardInterrupt" 86 (.type (SL.s11817881795495490833x17))),(zX0 P "SystemExit" 87 (.type (SL.s15679963881808890155x10))),(zX0 P "ArithmeticError" 88 (.type (SL.s3871700062485845797x15))),(zX0 P "AssertionError" 89 (.type (SL.s7689518266570723881x14))),(zX0 P "AttributeError" 90 (.type t82)),(zX0 P "BufferError" 91 (.type (SL.s6882542574934516792x11))),(zX0 P "EOFError" 92 (.type (SL.s14403400214490484960x8))),(zX0 P "ImportError" 93 (.type (SL.s14457978657717015782x11))),(zX0 P "LookupError" 94 (.type (SL.s1753610191782819921x11))),(zX0 P "MemoryError" 95 (.type (SL.s14119380538032626715x11))),(zX0 P "NameError" 96 (.type (SL.s11437920000406562045x9))),(zX0 P "OSError" 97 (.type t89)),(zX0 P "ReferenceError" 98 (.type (SL.s14816307405966870543x14))),(zX0 P "RuntimeError" 99 (.type (SL.s8682627914449686677x12))),(zX0 P "StopAsyncIteration" 100 (.type (SL.s4428170145600203450x18))),(zX0 P "StopIteration" 101 (.type t93)),(zX0 P "SyntaxError" 102 (.type (SL.s16067994140765818257x11))),(zX0 P "SystemError" 103 (.type (SL.s2327743974964600596x11))),(zX0 P "TypeError" 104 (.type (SL.s2804747833354056582x9))),(zX0 P "ValueError" 105 (.type (SL.s6070975301684473832x10))),(zX0 P "Warning" 106 (.type (SL.s14270485950484850486x7))),(zX0 P "FloatingPointError" 107 (.type (SL.s12041534306414923332x18))),(zX0 P "OverflowError" 108 (.type (SL.s2531307568338490285x13))),(zX0 P "ZeroDivisionError" 109 (.type (SL.s631175304937289666x17))),(zX0 P "BytesWarning" 110 (.type (SL.s5144983644357021410x12))),(zX0 P "DeprecationWarning" 111 (.type (SL.s18039099521571816885x18))),(zX0 P "EncodingWarning" 112 (.type (SL.s6011586214260557989x15))),(zX0 P "FutureWarning" 113 (.type (SL.s5430567037509283100x13))),(zX0 P "ImportWarning" 114 (.type (SL.s8117915138073963741x13))),(zX0 P "PendingDeprecationWarning" 115 (.type (SL.s3423317712779056401x25))),(zX0 P "ResourceWarning" 116 (.type (SL.s2007317383269046180x15))),(zX0 P "RuntimeWarning" 117 (.type (SL.s17481586968713580700x14))),(zX0 P "SyntaxWarning" 118 (.type (SL.s2450899226349176912x13))),(zX0 P "UnicodeWarning" 119 (.type (SL.s16626165730633575011x14))),(zX0 P "UserWarning" 120 (.type (SL.s14288496050688921416x11))),(zX0 P "BlockingIOError" 121 (.type (SL.s5735081916595925998x15))),(zX0 P "ChildProcessError" 122 (.type (SL.s3865607918536308442x17))),(zX0 P "ConnectionError" 123 (.type (SL.s13337502604062700212x15))),(zX0 P "FileExistsError" 124 (.type (SL.s13114017843053701147x15))),(zX0 P "FileNotFoundError" 125 (.type (SL.s17467278006356818441x17))),(zX0 P "InterruptedError" 126 (.type (SL.s17722149559621369488x16))),(zX0 P "IsADirectoryError" 127 (.type (SL.s7855274175708717672x17))),(zX0 P "NotADirectoryError" 128 (.type (SL.s13351283678309829046x18))),(zX0 P "PermissionError" 129 (.type (SL.s6668348653404991179x15))),(zX0 P "ProcessLookupError" 130 (.type (SL.s12913350958174193794x18))),(zX0 P "TimeoutError" 131 (.type (SL.s16115879512475548326x12))),(zX0 P "IndentationError" 132 (.type (SL.s15920661018069861047x16))),(zX0 P "_IncompleteInputError" 133 (.type (SL.s10779130036587390575x21))),(zX0 P "IndexError" 134 (.type (SL.s7801419657504700863x10))),(zX0 P "KeyError" 135 (.type (SL.s1688129525768580628x8))),(zX0 P "ModuleNotFoundError" 136 (.type (SL.s1031832959479892071x19))),(zX0 P "NotImplementedError" 137 (.type (SL.s8991790508128307865x19))),(zX0 P "PythonFinalizationError" 138 (.type (SL.s14539662485746970245x23))),(zX0 P "RecursionError" 139 (.type (SL.s11643622729373238714x14))),(zX0 P "UnboundLocalError" 140 (.type (SL.s3386828779285465597x17))),(zX0 P "UnicodeError" 141 (.type (SL.s13042696260734638735x12))),(zX0 P "BrokenPipeError" 142 (.type (SL.s18239426817015966623x15))),(zX0 P "ConnectionAbortedError" 143 (.type (SL.s1270395311379034370x22))),(zX0 P "ConnectionRefusedError" 144 (.type (SL.s10696252587037064777x22))),(zX0 P "ConnectionResetError" 145 (.type (SL.s7852717498200857586x20))),(zX0 P "TabError" 146 (.type (SL.s6377248116197321094x8))),(zX0 P "UnicodeDecodeError" 147 (.type (SL.s3834378056692298002x18))),(zX0 P "UnicodeEncodeError" 148 (.type (SL.s17586630440231065808x18))),(zX0 P "UnicodeTranslateError" 149 (.type (SL.s15234114252648025395x21))),(zX0 P "ExceptionGroup" 150 (.type (SL.s8496462677383758984x14))),(zX0 P "EnvironmentError" 151 (.type t89)),(zX0 P "IOError" 152 (.type t89)),(zX0 P "open" 153 (.builtin (SL.s16789243406116112673x4))),(zX0 P "quit" 154 (.builtin (SL.s14400166428656793546x20))),(zX0 P "exit" 155 (.builtin (SL.s5857708277339239366x20))),(zX0 P qSw 156 (.builtin (Lz "builtins.copyright#opaque"))),(zX0 P "credits" 157 (.builtin (Lz "builtins.credits#opaque"))),(zX0 P "license" 158 (.builtin (Lz "builtins.license#opaque"))),(zX0 P "help" 159 (.builtin (SL.s7804999707787243718x20)))] 159),#[]⟩
def o1 (P:Params):Obj:=⟨(.type t0),none,(.dict #[(zX0 P "builtins" 162 (.ref 4)),(zX0 P qSv 163 (.ref 5)),(zX0 P jU 244 (.ref 12))] 3),#[]⟩
def o2 (P:Params):Obj:=⟨.none,none,(.dict #[(zX0 P "\x69mport.loaded._sre" 183 (.bool true)),(zX0 P "class._frozen_importlib.BuiltinImporter" 185 (.ref 14)),(zX0 P "watched.\x69mport" 206 (.ref 18)),(zX0 P "class._frozen_importlib.ModuleSpec" 216 (.ref 22)),(zX0 P "sys.modules.booked-epoch" 245 i3),(zX0 P "\x69mport.later-laid._sre" 270 (.bool true)),(zX0 P "watched.library" 272 (.ref 27)),(zX0 P "watched.library-objects" 0 (.str ⟨⟨[12]⟩⟩ 0)),(zX0 P "watched.library-deep._sre" 273 (.str ⟨⟨[4,0,0,11,4,0,0,11,4,0,0,3,4,0,0,11,8,4,100,105,99,116,2]⟩⟩ 0))] 9),#[]⟩
def o3 (P:Params):Obj:=⟨(.type t0),none,(.dict #[(zX0 P s0 165 (.str qSv 164)),(zX0 P s2 166 .none),(zX0 P s3 167 .none),(zX0 P s4 168 (.builtin qRr)),(zX0 P s5 169 .none),(zX0 P qBs 170 (.ref 6)),(zX0 P qBr 171 (.ref 4)),(zX0 P qBq 173 (.str qR 172)),(zX0 P qBp 174 .none),(zX0 P jU 275 (.ref 12))] 10),#[]⟩
def o4:Obj:=⟨(.type zKp),(some 0),.plain,#[]⟩
def o5:Obj:=⟨(.type zKp),(some 3),.plain,#[]⟩
def o6:Obj:=⟨(.type t0),none,(.dict #[] 0),#[]⟩
def o7:Obj:=⟨(.type t71),none,(.seq #[] 0),#[]⟩
noncomputable def o8:Obj:=⟨.none,none,(.fields #[]),#[]⟩
def o9:Obj:=⟨(.type xX),none,(.fields #[(.str zEl 176),(.str zEl 177),(.str qR 178),i1,i0,i0,i0,i0,(.ref 7),(.bool false),(Iz 175),(.ref 8),.none,.none,.none,.none,(Iz 179),i1,(.str qR 180)]),#[]⟩
def o10:Obj:=⟨(.type qMi),none,.plain,#[(some (.ref 9)),(some (.ref 3)),(some (.ref 3)),none,(some (.str qSv 164)),none,(some (.ref 0))]⟩
def o11 (P:Params):Obj:=⟨(.type t0),none,(.dict #[(zX0 P s0 247 (.str jU 246)),(zX0 P s2 248 .none),(zX0 P s3 250 (.str zEk 249)),(zX0 P s4 251 (.builtin (Lz "off-the-table:_sre.__loader__:shared#opaque"))),(zX0 P s5 252 (.builtin (Lz "off-the-table:_sre.__spec__:shared#opaque"))),(zX0 P s16 253 (.builtin (SL.s492968859115322481x12))),(zX0 P zEj 254 (.builtin (Lz "off-the-table:_sre.template:shared#opaque"))),(zX0 P zEi 255 (.builtin (Lz "off-the-table:_sre.getcodesize:shared#opaque"))),(zX0 P zEh 256 (.builtin (Lz "off-the-table:_sre.ascii_iscased:shared#opaque"))),(zX0 P zEg 257 (.builtin (Lz "off-the-table:_sre.unicode_iscased:shared#opaque"))),(zX0 P zEf 258 (.builtin (Lz "off-the-table:_sre.ascii_tolower:shared#opaque"))),(zX0 P zEe 259 (.builtin (Lz "off-the-table:_sre.unicode_tolower:shared#opaque"))),(zX0 P zEd 261 (Jz 20230612 260)),(zX0 P zEc 263 (Jz 4 262)),(zX0 P zEb 265 (Jz 4294967295 264)),(zX0 P zEa 267 (Jz 1073741823 266)),(zX0 P qSw 269 (.str " SRE 2.2.2 Copyright (c) 1997-2002 by Secret Labs AB " 268))] 17),#[]⟩
def o12:Obj:=⟨(.type zKp),(some 11),.plain,#[]⟩
def o13 (P:Params):Obj:=⟨(.type t0),none,(.dict #[(zX0 P qBo 189 (.str "_frozen_importlib" 186)),(zX0 P qBn 190 (Jz 971 187)),(zX0 P s2 191 (.builtin (Lz "_frozen_importlib.BuiltinImporter.__doc__:str#opaque"))),(zX0 P "_ORIGIN" 192 (.str "built-in" 188)),(zX0 P "find_spec" 193 (.builtin (Lz "_frozen_importlib.BuiltinImporter.find_spec#opaque"))),(zX0 P "create_module" 194 (.builtin (Lz "_frozen_importlib.BuiltinImporter.create_module#opaque"))),(zX0 P "exec_module" 195 (.builtin (Lz "_frozen_importlib.BuiltinImporter.exec_module#opaque"))),(zX0 P "get_code" 196 (.builtin (Lz "_frozen_importlib.BuiltinImporter.get_code#opaque"))),(zX0 P "get_source" 197 (.builtin (Lz "_frozen_importlib.BuiltinImporter.get_source#opaque"))),(zX0 P "is_package" 198 (.builtin (Lz "_frozen_importlib.BuiltinImporter.is_package#opaque"))),(zX0 P "load_module" 199 (.builtin (Lz "_frozen_importlib.BuiltinImporter.load_module#opaque"))),(zX0 P qBm 200 (.ref 15)),(zX0 P qBl 202 (.ref 16)),(zX0 P qBk 204 (.ref 17))] 14),#[]⟩
def o14:Obj:=⟨(.type t72),none,(.cls ⟨"BuiltinImporter", [(.type t63)],[(.ref 14),(.type t63)],13,"BuiltinImporter", true,[],[],false,none,false⟩),#[]⟩
def o15:Obj:=⟨(.type qJv),none,(.fields #[(.str qBl 201),(.ref 14),(.builtin zDb),(.builtin zDa)]),#[]⟩
def o16:Obj:=⟨(.type qJv),none,(.fields #[(.str qBk 203),(.ref 14),(.builtin zCz),.none]),#[]⟩
def o17:Obj:=⟨.none,none,(.seq #[i13,(.str "\x06½\n__module__\x06º\x11_frozen_importlib\x06¾\x0f__firstlineno__\x04»\x00ϋ\x06¿\x07__doc__\t4_frozen_importlib.BuiltinImporter.__doc__:str#opaque\x06À\x07_ORIGIN\x06¼\x08built-in\x06Á\tfind_spec\t2_frozen_importlib.BuiltinImporter.find_spec#opaque\x06Â\x0dcreate_module\t6_frozen_importlib.BuiltinImporter.create_module#opaque\x06Ã\x0bexec_module\t4_frozen_importlib.BuiltinImporter.exec_module#opaque\x06Ä\x08get_code\t1_frozen_importlib.BuiltinImporter.get_code#opaque\x06Å\nget_source\t3_frozen_importlib.BuiltinImporter.get_source#opaque\x06Æ\nis_package\t3_frozen_importlib.BuiltinImporter.is_package#opaque\x06Ç\x0bload_module\t4_frozen_importlib.BuiltinImporter.load_module#opaque\x06È\x15__static_attributes__\x04\x00\x00\x0f\x06Ê\x08__dict__\x04\x00\x00\x10\x06Ì\x0b__weakref__\x04\x00\x00\x11" 0),(.bool true),(.bool true),(.str zEk 205),(Iz 21),(.str "\x06ã\n__module__\x06Ù\x11_frozen_importlib\x06ä\x0f__firstlineno__\x04Ú\x00Ȳ\x06å\x07__doc__\t/_frozen_importlib.ModuleSpec.__doc__:str#opaque\x06æ\x08__init__\t,_frozen_importlib.ModuleSpec.__init__#opaque\x06ç\x08__repr__\t,_frozen_importlib.ModuleSpec.__repr__#opaque\x06è\x06__eq__\t*_frozen_importlib.ModuleSpec.__eq__#opaque\x06é\x06cached\t*_frozen_importlib.ModuleSpec.cached#opaque\x06ê\x06parent\t*_frozen_importlib.ModuleSpec.parent#opaque\x06ë\x0chas_location\t0_frozen_importlib.ModuleSpec.has_location#opaque\x06ì\x15__static_attributes__\x04\x00\x00\x17\x06î\x08__dict__\x04\x00\x00\x18\x06ð\x0b__weakref__\x04\x00\x00\x19\x06ñ\x08__hash__\x00" 0),(.bool true),(.bool true),(.str zEk 242)] 1),#[]⟩
def o18:Obj:=⟨(.type t61),none,(.seq #[] 0),#[]⟩
def o19 (P:Params):Obj:=⟨(.type t0),none,(.dict #[(zX0 P "name" 208 (.str jU 207)),(zX0 P "loader" 209 (.ref 14)),(zX0 P "origin" 210 (.str "built-in" 184)),(zX0 P "loader_state" 211 .none),(zX0 P "submodule_search_locations" 212 .none),(zX0 P "_uninitialized_submodules" 213 (.ref 19)),(zX0 P "_set_fileattr" 214 (.bool false)),(zX0 P "_cached" 215 .none),(zX0 P "_initializing" 243 (.bool false))] 9),#[]⟩
def o20 (P:Params):Obj:=⟨(.type t0),none,(.dict #[(zX0 P qBo 227 (.str "_frozen_importlib" 217)),(zX0 P qBn 228 (Jz 562 218)),(zX0 P s2 229 (.builtin (Lz "_frozen_importlib.ModuleSpec.__doc__:str#opaque"))),(zX0 P qHm 230 (.builtin (Lz "_frozen_importlib.ModuleSpec.__init__#opaque"))),(zX0 P "__repr__" 231 (.builtin (Lz "_frozen_importlib.ModuleSpec.__repr__#opaque"))),(zX0 P "__eq__" 232 (.builtin (Lz "_frozen_importlib.ModuleSpec.__eq__#opaque"))),(zX0 P "cached" 233 (.builtin (Lz "_frozen_importlib.ModuleSpec.cached#opaque"))),(zX0 P "parent" 234 (.builtin (Lz "_frozen_importlib.ModuleSpec.parent#opaque"))),(zX0 P "has_location" 235 (.builtin (Lz "_frozen_importlib.ModuleSpec.has_location#opaque"))),(zX0 P qBm 236 (.ref 23)),(zX0 P qBl 238 (.ref 24)),(zX0 P qBk 240 (.ref 25)),(zX0 P "__hash__" 241 .none)] 13),#[]⟩
def o21:Obj:=⟨(.type t72),none,(.cls ⟨"ModuleSpec", [(.type t63)],[(.ref 22),(.type t63)],21,"ModuleSpec", true,[],[],false,none,false⟩),#[]⟩
def o22:Obj:=⟨(.type t71),none,(.seq #[(.str "_cached" 219),(.str "_set_fileattr" 220),(.str "_uninitialized_submodules" 221),(.str "loader" 222),(.str "loader_state" 223),(.str "name" 224),(.str "origin" 225),(.str "submodule_search_locations" 226)] 0),#[]⟩
def o23:Obj:=⟨(.type qJv),none,(.fields #[(.str qBl 237),(.ref 22),(.builtin zDb),(.builtin zDa)]),#[]⟩
def o24:Obj:=⟨(.type qJv),none,(.fields #[(.str qBk 239),(.ref 22),(.builtin zCz),.none]),#[]⟩
noncomputable def o25:Obj:=⟨(.ref 22),(some 20),.plain,#[]⟩
def o26:Obj:=⟨.none,none,(.seq #[(Iz 11),(.str ⟨⟨[6,247,8,95,95,110,97,109,101,95,95,6,246,4,95,115,114,101,6,248,7,95,95,100,111,99,95,95,0,6,250,11,95,95,112,97,99,107,97,103,101,95,95,6,249,0,6,251,10,95,95,108,111,97,100,101,114,95,95,4,0,0,14,6,252,8,95,95,115,112,101,99,95,95,4,0,0,26,6,253,7,99,111,109,112,105,108,101,9,12,95,115,114,101,46,99,111,109,112,105,108,101,6,254,8,116,101,109,112,108,97,116,101,9,13,95,115,114,101,46,116,101,109,112,108,97,116,101,6,255,11,103,101,116,99,111,100,101,115,105,122,101,9,16,95,115,114,101,46,103,101,116,99,111,100,101,115,105,122,101,6,256,13,97,115,99,105,105,95,105,115,99,97,115,101,100,9,18,95,115,114,101,46,97,115,99,105,105,95,105,115,99,97,115,101,100,6,257,15,117,110,105,99,111,100,101,95,105,115,99,97,115,101,100,9,20,95,115,114,101,46,117,110,105,99,111,100,101,95,105,115,99,97,115,101,100,6,258,13,97,115,99,105,105,95,116,111,108,111,119,101,114,9,18,95,115,114,101,46,97,115,99,105,105,95,116,111,108,111,119,101,114,6,259,15,117,110,105,99,111,100,101,95,116,111,108,111,119,101,114,9,20,95,115,114,101,46,117,110,105,99,111,100,101,95,116,111,108,111,119,101,114,6,261,5,77,65,71,73,67,4,260,0,20230612,6,263,8,67,79,68,69,83,73,90,69,4,262,0,4,6,265,9,77,65,88,82,69,80,69,65,84,4,264,0,4294967295,6,267,9,77,65,88,71,82,79,85,80,83,4,266,0,1073741823,6,269,9,99,111,112,121,114,105,103,104,116,6,268,53,32,83,82,69,32,50,46,50,46,50,32,67,111,112,121,114,105,103,104,116,32,40,99,41,32,49,57,57,55,45,50,48,48,50,32,98,121,32,83,101,99,114,101,116,32,76,97,98,115,32,65,66,32]⟩⟩ 0),(.bool true),(.bool false),(.str jU 271)] 0),#[]⟩
def o27:Obj:=⟨(.type xX),none,(.fields #[(.str zEl 277),(.str zEl 278),(.str qR 279),i1,i0,i0,i0,i0,(.ref 28),(.bool false),kF,(.ref 29),.none,.none,.none,.none,(Iz 280),i1,(.str qR 281)]),#[]⟩
def o28:Obj:=⟨(.type qMi),none,.plain,#[(some (.ref 30)),(some (.ref 3)),(some (.ref 3)),none,(some (.str qSv 164)),none,(some (.ref 0))]⟩
def o29 (P:Params):Obj:=⟨(.type t0),none,(.dict #[(zX0 P s0 165 (.str kK 289)),(zX0 P s2 166 .none),(zX0 P s3 167 .none),(zX0 P s4 168 (.builtin qRr)),(zX0 P s5 169 .none),(zX0 P qBs 170 (.ref 6)),(zX0 P qBr 171 (.ref 4)),(zX0 P qBq 173 (.str qR 172)),(zX0 P qBp 174 .none),(zX0 P jU 275 (.ref 12)),(zX0 P wZ 288 (.ref 38)),(zX0 P qDc 504 (.ref 43))] 12),#[]⟩
def o31:Obj:=⟨(.type t71),none,(.seq #[(.str "k" 285)] 0),#[]⟩
def o32:Obj:=⟨.none,none,(Fz (nth TB 1) wZ wZ),#[]⟩
def o33:Obj:=⟨(.type xX),none,(.fields #[(.str wZ 282),(.str wZ 283),(.str qR 284),i2,i1,i0,i0,i3,(.ref 32),(.bool true),kF,(.ref 33),.none,(.ref 34),(.ref 35),(.ref 36),(Iz 286),i2,(.str qR 287)]),#[]⟩
def o34:Obj:=⟨(.type vM),none,(Gz (nth TB 1) wZ wZ (.str qSv 164) (.ref 37)),#[]⟩
def o35:Obj:=⟨(.type t61),none,(.seq #[(Jz 14 294),(Jz 4 295),(Jz 0 296),(Jz 3 297),(Jz 4294967295 298),(Jz 6 299),(Jz 1 300),(Jz 24 301),(Jz 11 302),(Jz 0 303),(Jz 4294967295 304),(Jz 13 305),(Jz 6 306),(Jz 16 307),(Jz 32 308),(Jz 16 309),(Jz 9 310),(Jz 0 311),(Jz 1 312),(Jz 7 313),(Jz 13 314),(Jz 16 315),(Jz 119 316),(Jz 16 317),(Jz 104 318),(Jz 16 319),(Jz 105 320),(Jz 16 321),(Jz 108 322),(Jz 16 323),(Jz 101 324),(Jz 15 325),(Jz 173 326),(Jz 11 327),(Jz 16 328),(Jz 101 329),(Jz 16 330),(Jz 108 331),(Jz 16 332),(Jz 115 333),(Jz 16 334),(Jz 101 335),(Jz 15 336),(Jz 162 337),(Jz 9 338),(Jz 16 339),(Jz 100 340),(Jz 16 341),(Jz 101 342),(Jz 16 343),(Jz 102 344),(Jz 15 345),(Jz 153 346),(Jz 15 347),(Jz 16 348),(Jz 114 349),(Jz 16 350),(Jz 101 351),(Jz 16 352),(Jz 116 353),(Jz 16 354),(Jz 117 355),(Jz 16 356),(Jz 114 357),(Jz 16 358),(Jz 110 359),(Jz 15 360),(Jz 138 361),(Jz 15 362),(Jz 16 363),(Jz 97 364),(Jz 16 365),(Jz 115 366),(Jz 16 367),(Jz 115 368),(Jz 16 369),(Jz 101 370),(Jz 16 371),(Jz 114 372),(Jz 16 373),(Jz 116 374),(Jz 15 375),(Jz 123 376),(Jz 13 377),(Jz 16 378),(Jz 98 379),(Jz 16 380),(Jz 114 381),(Jz 16 382),(Jz 101 383),(Jz 16 384),(Jz 97 385),(Jz 16 386),(Jz 107 387),(Jz 15 388),(Jz 110 389),(Jz 13 390),(Jz 16 391),(Jz 99 392),(Jz 16 393),(Jz 108 394),(Jz 16 395),(Jz 97 396),(Jz 16 397),(Jz 115 398),(Jz 16 399),(Jz 115 400),(Jz 15 401),(Jz 97 402),(Jz 19 403),(Jz 16 404),(Jz 99 405),(Jz 16 406),(Jz 111 407),(Jz 16 408),(Jz 110 409),(Jz 16 410),(Jz 116 411),(Jz 16 412),(Jz 105 413),(Jz 16 414),(Jz 110 415),(Jz 16 416),(Jz 117 417),(Jz 16 418),(Jz 101 419),(Jz 15 420),(Jz 78 421),(Jz 11 422),(Jz 16 423),(Jz 101 424),(Jz 16 425),(Jz 108 426),(Jz 16 427),(Jz 105 428),(Jz 16 429),(Jz 102 430),(Jz 15 431),(Jz 67 432),(Jz 9 433),(Jz 16 434),(Jz 116 435),(Jz 16 436),(Jz 114 437),(Jz 16 438),(Jz 121 439),(Jz 15 440),(Jz 58 441),(Jz 15 442),(Jz 16 443),(Jz 101 444),(Jz 16 445),(Jz 120 446),(Jz 16 447),(Jz 99 448),(Jz 16 449),(Jz 101 450),(Jz 16 451),(Jz 112 452),(Jz 16 453),(Jz 116 454),(Jz 15 455),(Jz 43 456),(Jz 13 457),(Jz 16 458),(Jz 114 459),(Jz 16 460),(Jz 97 461),(Jz 16 462),(Jz 105 463),(Jz 16 464),(Jz 115 465),(Jz 16 466),(Jz 101 467),(Jz 15 468),(Jz 30 469),(Jz 15 470),(Jz 16 471),(Jz 105 472),(Jz 16 473),(Jz 109 474),(Jz 16 475),(Jz 112 476),(Jz 16 477),(Jz 111 478),(Jz 16 479),(Jz 114 480),(Jz 16 481),(Jz 116 482),(Jz 15 483),(Jz 15 484),(Jz 13 485),(Jz 16 486),(Jz 121 487),(Jz 16 488),(Jz 105 489),(Jz 16 490),(Jz 101 491),(Jz 16 492),(Jz 108 493),(Jz 16 494),(Jz 100 495),(Jz 15 496),(Jz 2 497),(Jz 0 498),(Jz 6 499),(Jz 10 500),(Jz 1 501)] 0),#[]⟩
def o36:Obj:=⟨(.type t71),none,(.seq #[.none] 0),#[]⟩
def o37:Obj:=⟨(.type t71),none,(.seq #[(Iz 14),i4,i0,i3,(Iz 4294967295),(Iz 6),i1,(Iz 24),(Iz 11),i0,(Iz 4294967295),i13,(Iz 6),i16,(Iz 32),i16,i9,i0,i1,(Iz 7),i13,i16,(Iz 119),i16,(Iz 104),i16,(Iz 105),i16,(Iz 108),i16,qAn,i15,(Iz 173),(Iz 11),i16,qAn,i16,(Iz 108),i16,(Iz 115),i16,qAn,i15,(Iz 162),i9,i16,(Iz 100),i16,qAn,i16,(Iz 102),i15,(Iz 153),i15,i16,(Iz 114),i16,qAn,i16,(Iz 116),i16,(Iz 117),i16,(Iz 114),i16,(Iz 110),i15,(Iz 138),i15,i16,(Iz 97),i16,(Iz 115),i16,(Iz 115),i16,qAn,i16,(Iz 114),i16,(Iz 116),i15,(Iz 123),i13,i16,(Iz 98),i16,(Iz 114),i16,qAn,i16,(Iz 97),i16,(Iz 107),i15,(Iz 110),i13,i16,(Iz 99),i16,(Iz 108),i16,(Iz 97),i16,(Iz 115),i16,(Iz 115),i15,(Iz 97),(Iz 19),i16,(Iz 99),i16,(Iz 111),i16,(Iz 110),i16,(Iz 116),i16,(Iz 105),i16,(Iz 110),i16,(Iz 117),i16,qAn,i15,(Iz 78),(Iz 11),i16,qAn,i16,(Iz 108),i16,(Iz 105),i16,(Iz 102),i15,(Iz 67),i9,i16,(Iz 116),i16,(Iz 114),i16,(Iz 121),i15,(Iz 58),i15,i16,qAn,i16,(Iz 120),i16,(Iz 99),i16,qAn,i16,(Iz 112),i16,(Iz 116),i15,(Iz 43),i13,i16,(Iz 114),i16,(Iz 97),i16,(Iz 105),i16,(Iz 115),i16,qAn,i15,(Iz 30),i15,i16,(Iz 105),i16,(Iz 109),i16,(Iz 112),i16,(Iz 111),i16,(Iz 114),i16,(Iz 116),i15,i15,i13,i16,(Iz 121),i16,(Iz 105),i16,qAn,i16,(Iz 108),i16,(Iz 100),i15,i2,i0,(Iz 6),(Iz 10),i1] 0),#[]⟩
def o38:Obj:=⟨(.type (SL.s12171344214640291687x10)),none,(.fields #[(.str "\n    ^\n    [ \\t]*\n    (?: while\n    |   else\n    |   def\n    |   return\n    |   assert\n    |   break\n    |   class\n    |   continue\n    |   elif\n    |   try\n    |   except\n    |   raise\n    |   \x69mport\n    |   yield\n    )\n    \\b\n" 292),(Jz 104 503),i0,.none,.none,(.ref 42),i0]),#[]⟩
def o39 (P:Params):Obj:=⟨(.type t0),none,(.dict #[(zX0 P s0 165 (.str kK 289)),(zX0 P s2 166 .none),(zX0 P s3 167 .none),(zX0 P s4 168 (.builtin qRr)),(zX0 P s5 169 .none),(zX0 P qBs 170 (.ref 6)),(zX0 P qBr 171 (.ref 4)),(zX0 P qBq 173 (.str qR 172)),(zX0 P qBp 174 .none),(zX0 P jU 275 (.ref 12)),(zX0 P wZ 288 (.ref 38)),(zX0 P qDc 504 (.ref 43)),(zX0 P qFd 513 (Jz 0 508)),(zX0 P qFc 514 (Jz 1 509)),(zX0 P qFb 515 (Jz 2 510)),(zX0 P qFa 516 (Jz 3 511)),(zX0 P qEz 517 (Jz 4 512)),(zX0 P qHl 519 (.ref 48)),(zX0 P yL 547 (.ref 65))] 19),#[]⟩
def o40:Obj:=⟨.none,none,(.fields #[i2,i0,(.ref 37),i9,i0,(.ref 54)]),#[]⟩
def o41:Obj:=⟨(.type t64),none,(.fields #[(Jz 0 506),(Jz 5 505),(Jz 1 507)]),#[]⟩
def o42:Obj:=⟨(.type qEs),none,(.fields #[(Iz 5),i0,i1]),#[]⟩
def o43:Obj:=⟨(.type t93),none,(.fields #[(.ref 46),.none,.none,.none,(.bool false),.none]),#[]⟩
def o44:Obj:=⟨(.type qWi),none,(.fields #[(.builtin (SL.s9858327723941210770x17)),(.ref 43)]),#[]⟩
def o45:Obj:=⟨(.type t71),none,(.seq #[(.type t0)] 0),#[]⟩
def o46:Obj:=⟨(.type qWi),none,(.fields #[(.builtin (SL.s10062305145149207511x16)),(.type t72)]),#[]⟩
def o47 (P:Params):Obj:=⟨(.type t0),none,(.dict #[(zX0 P qBo 527 (.str kK 289)),(zX0 P zDz 529 (.str yL 528)),(zX0 P qBn 531 (Jz 9 530)),(zX0 P qNk 539 (.ref 62)),(zX0 P qBm 540 (.ref 63))] 5),#[]⟩
def o48:Obj:=⟨.none,none,(.fields #[(Iz 11),i4,(.ref 61)]),#[]⟩
def o49:Obj:=⟨(.type xX),none,(.fields #[(.str yL 522),(.str yL 523),(.str qR 524),i9,i0,i0,i0,i0,(.ref 52),(.bool false),kF,(.ref 53),.none,.none,.none,.none,(Iz 525),i9,(.str qR 526)]),#[]⟩
def o50:Obj:=⟨(.type qMi),none,.plain,#[(some (.ref 54)),(some (.ref 3)),(some (.ref 51)),none,(some (.str kK 289)),none,(some (.ref 0))]⟩
def o51:Obj:=⟨(.type t71),none,(.seq #[(.str yK 535),(.str "key" 536)] 0),#[]⟩
def o52:Obj:=⟨.none,none,(Fz (nth (cls (nth TB 6)) 0) qNk "ParseMap.__missing__"),#[]⟩
def o53:Obj:=⟨(.type xX),none,(.fields #[(.str qNk 532),(.str "ParseMap.__missing__" 533),(.str qR 534),(Iz 11),i2,i0,i0,i3,(.ref 56),(.bool true),kF,(.ref 57),.none,(.ref 58),(.ref 59),(.ref 60),(Iz 537),(Iz 11),(.str qR 538)]),#[]⟩
def o54:Obj:=⟨(.type vM),none,(Gz (nth (cls (nth TB 6)) 0) qNk "ParseMap.__missing__" (.str kK 289) (.ref 61)),#[]⟩
def o55 (P:Params):Obj:=⟨(.type t0),none,(.dict #[(zX0 P qBo 527 (.str kK 289)),(zX0 P qBn 531 (Jz 9 530)),(zX0 P qNk 539 (.ref 62)),(zX0 P qBm 540 (.ref 63)),(zX0 P qBl 542 (.ref 66)),(zX0 P qBk 544 (.ref 67)),(zX0 P s2 545 .none)] 4),#[]⟩
def o56:Obj:=⟨(.type t72),none,(.cls ⟨yL,[(.type t0)],[(.ref 65),(.type t0),(.type t63)],64,yL,true,[],[],false,none,false⟩),#[(some (.ref 49)),none,(some (.str yL 520)),(some (.str yL 528)),(some (.builtin (SL.s15987600418018006706x12))),(some (.bool true))]⟩
def o57:Obj:=⟨(.type qJv),none,(.fields #[(.str qBl 541),(.ref 65),(.builtin zDb),(.builtin zDa)]),#[]⟩
def o58:Obj:=⟨(.type qJv),none,(.fields #[(.str qBk 543),(.ref 65),(.builtin zCz),.none]),#[]⟩
def o59:Obj:=⟨(.type t70),none,(.fields #[(.ref 65),(.ref 65),(.ref 65)]),#[]⟩
def o60:Obj:=⟨(.type qWi),none,(.fields #[(.builtin (SL.s4860613602091757760x24)),(.ref 65)]),#[]⟩
def o61:Obj:=⟨(.type qWi),none,(.fields #[(.builtin (SL.s15322075717076897914x13)),(.ref 65)]),#[]⟩
def o62:Obj:=⟨(.type t64),none,(.fields #[(Jz 0 550),(Jz 128 549),(Jz 1 551)]),#[]⟩
def o80:Obj:=⟨(.type qEs),none,(.fields #[(Iz 128),i0,i1]),#[]⟩
def o81 (P:Params):Obj:=⟨(.type t0),none,(.dict #[(zX0 P s0 165 (.str kK 289)),(zX0 P s2 166 .none),(zX0 P s3 167 .none),(zX0 P s4 168 (.builtin qRr)),(zX0 P s5 169 .none),(zX0 P qBs 170 (.ref 6)),(zX0 P qBr 171 (.ref 4)),(zX0 P qBq 173 (.str qR 172)),(zX0 P qBp 174 .none),(zX0 P jU 275 (.ref 12)),(zX0 P wZ 288 (.ref 38)),(zX0 P qDc 504 (.ref 43)),(zX0 P qFd 513 (Jz 0 508)),(zX0 P qFc 514 (Jz 1 509)),(zX0 P qFb 515 (Jz 2 510)),(zX0 P qFa 516 (Jz 3 511)),(zX0 P qEz 517 (Jz 4 512)),(zX0 P qHl 519 (.ref 48)),(zX0 P yL 547 (.ref 65)),(zX0 P qNj 809 (.ref 73))] 20),#[]⟩
def o82:Obj:=⟨(.type t93),none,(.fields #[(.ref 75),.none,.none,.none,(.bool false),.none]),#[]⟩
def o85:Obj:=⟨(.type (SL.s13500813778147066322x18)),none,(.fields #[.none,i3]),#[]⟩
def o86:Obj:=⟨(.type xX),none,(.fields #[(.str qBj 811),(.str qBj 812),(.str qR 813),(Iz 14),i1,i0,i0,(Iz 35),(.ref 78),(.bool true),kF,(.ref 79),.none,.none,.none,.none,(Iz 814),(Iz 14),(.str qR 815)]),#[]⟩
def o87 (P:Params):Obj:=⟨(.type qMi),none,(.dict #[(zX0 P qSu 816 (.ref 77)),(zX0 P qSt 823 (.str "[" 834))] 2),#[]⟩
def o88:Obj:=⟨(.type zKo),none,(.fields #[i0,(.str qBj 817),(.str qBj 818)]),#[]⟩
def o89:Obj:=⟨(.type t71),none,(.seq #[(.str "'generator' object has no attribute 'keys'" 820)] 0),#[]⟩
def o90:Obj:=⟨(.type t82),none,(.fields #[(.ref 83),.none,.none,.none,(.bool false),.none,(.str "keys" 821),(.ref 82)]),#[]⟩
def o91:Obj:=⟨(.type t71),none,(.seq #[(Jz 40 824),(Jz 40 826)] 0),#[]⟩
def o92:Obj:=⟨(.type t71),none,(.seq #[(Jz 123 830),(Jz 40 832)] 0),#[]⟩
def o93:Obj:=⟨(.type t71),none,(.seq #[(Jz 91 836),(Jz 40 838)] 0),#[]⟩
def o94:Obj:=⟨(.type t93),none,(.fields #[(.ref 88),.none,.none,.none,(.bool false),.none]),#[]⟩
def o95:Obj:=⟨(.type t93),none,(.fields #[(.ref 90),.none,.none,.none,(.bool false),.none]),#[]⟩
def o98:Obj:=⟨(.type xX),none,(.fields #[(.str qBj 841),(.str qBj 842),(.str qR 843),i15,i1,i0,i0,(Iz 35),(.ref 93),(.bool true),kF,(.ref 94),.none,.none,.none,.none,(Iz 844),i15,(.str qR 845)]),#[]⟩
def o99 (P:Params):Obj:=⟨(.type qMi),none,(.dict #[(zX0 P qSu 846 (.ref 92)),(zX0 P qSt 853 (.str "]" 864))] 2),#[]⟩
def qYk:Obj:=⟨(.type zKo),none,(.fields #[i1,(.str qBj 847),(.str qBj 848)]),#[]⟩
def qYj:Obj:=⟨(.type t71),none,(.seq #[(.str "'generator' object has no attribute 'keys'" 850)] 0),#[]⟩
def qYi:Obj:=⟨(.type t82),none,(.fields #[(.ref 98),.none,.none,.none,(.bool false),.none,(.str "keys" 851),(.ref 97)]),#[]⟩
def qYh:Obj:=⟨(.type t71),none,(.seq #[(Jz 41 854),(Jz 41 856)] 0),#[]⟩
def qYg:Obj:=⟨(.type t71),none,(.seq #[(Jz 125 860),(Jz 41 862)] 0),#[]⟩
def qYf:Obj:=⟨(.type t71),none,(.seq #[(Jz 93 866),(Jz 41 868)] 0),#[]⟩
def qYe:Obj:=⟨(.type t93),none,(.fields #[(.ref 103),.none,.none,.none,(.bool false),.none]),#[]⟩
def qYd:Obj:=⟨(.type t93),none,(.fields #[(.ref 105),.none,.none,.none,(.bool false),.none]),#[]⟩
def qYc:Obj:=⟨(.ref 65),(some 72),(.dict #[e0,e1,e2,e3,e4,e5,e6,e7,e8,e9,⟨(.ofNat 10),(Jz 10 573),(Jz 10 900)⟩,e11,e12,e13,e14,e15,e16,e17,e18,e19,e20,e21,e22,e23,e24,e25,e26,e27,e28,e29,e30,e31,e32,e33,⟨(.ofNat 34),(Jz 34 621),(Jz 34 885)⟩,⟨(.ofNat 35),(Jz 35 623),(Jz 35 905)⟩,e36,e37,e38,⟨(.ofNat 39),(Jz 39 631),(Jz 39 890)⟩,zOd,⟨(.ofNat 41),(Jz 41 635),(Jz 41 856)⟩,e42,e43,e44,e45,e46,e47,e48,e49,e50,e51,e52,e53,e54,e55,e56,e57,e58,e59,e60,e61,e62,e63,e64,e65,e66,e67,e68,e69,e70,e71,e72,e73,e74,e75,e76,e77,e78,e79,e80,e81,e82,e83,e84,e85,e86,e87,e88,e89,e90,zOc,⟨(.ofNat 92),(Jz 92 737),(Jz 92 895)⟩,⟨(.ofNat 93),(Jz 93 739),(Jz 41 868)⟩,e94,e95,e96,e97,e98,e99,qUs,qUr,qUq,qUp,qUo,qUn,qUm,qUl,qUk,qUj,qUi,qUh,zBf,zBe,zBd,zBc,zBb,zBa,zAz,zAy,zAx,zAw,zAv,zOb,zAu,⟨(.ofNat 125),(Jz 125 803),(Jz 41 862)⟩,zAt,zAs] 128),#[]⟩
def zHd:Obj:=⟨(.type (SL.s13500813778147066322x18)),none,(.fields #[.none,(Iz 5)]),#[]⟩
def zHc:Obj:=⟨(.type xX),none,(.fields #[(.str qBj 871),(.str qBj 872),(.str qR 873),i16,i1,i0,i0,(Iz 35),(.ref 108),(.bool true),kF,(.ref 109),.none,.none,.none,.none,(Iz 874),i16,(.str qR 875)]),#[]⟩
def zHb (P:Params):Obj:=⟨(.type qMi),none,(.dict #[(zX0 P qSu 876 (.ref 107)),(zX0 P qSt 883 (.str "#" 902))] 2),#[]⟩
def zHa:Obj:=⟨(.type zKo),none,(.fields #[i2,(.str qBj 877),(.str qBj 878)]),#[]⟩
def zGz:Obj:=⟨(.type t71),none,(.seq #[(.str "'generator' object has no attribute 'keys'" 880)] 0),#[]⟩
def zGy:Obj:=⟨(.type t82),none,(.fields #[(.ref 113),.none,.none,.none,(.bool false),.none,(.str "keys" 881),(.ref 112)]),#[]⟩
def zGx:Obj:=⟨(.type t71),none,(.seq #[(Jz 34 884),(Jz 34 885)] 0),#[]⟩
def zGw:Obj:=⟨(.type t71),none,(.seq #[(Jz 39 889),(Jz 39 890)] 0),#[]⟩
def zGv:Obj:=⟨(.type t71),none,(.seq #[(Jz 92 894),(Jz 92 895)] 0),#[]⟩
def zGu:Obj:=⟨(.type t71),none,(.seq #[(Jz 10 899),(Jz 10 900)] 0),#[]⟩
def zGt:Obj:=⟨(.type t71),none,(.seq #[(Jz 35 904),(Jz 35 905)] 0),#[]⟩
def zGs:Obj:=⟨(.type t93),none,(.fields #[(.ref 120),.none,.none,.none,(.bool false),.none]),#[]⟩
def zGr:Obj:=⟨(.type t93),none,(.fields #[(.ref 122),.none,.none,.none,(.bool false),.none]),#[]⟩
def zRb (P:Params):Obj:=⟨(.type t0),none,(.dict #[(zX0 P s0 165 (.str kK 289)),(zX0 P s2 166 .none),(zX0 P s3 167 .none),(zX0 P s4 168 (.builtin qRr)),(zX0 P s5 169 .none),(zX0 P qBs 170 (.ref 6)),(zX0 P qBr 171 (.ref 4)),(zX0 P qBq 173 (.str qR 172)),(zX0 P qBp 174 .none),(zX0 P jU 275 (.ref 12)),(zX0 P wZ 288 (.ref 38)),(zX0 P qDc 504 (.ref 43)),(zX0 P qFd 513 (Jz 0 508)),(zX0 P qFc 514 (Jz 1 509)),(zX0 P qFb 515 (Jz 2 510)),(zX0 P qFa 516 (Jz 3 511)),(zX0 P qEz 517 (Jz 4 512)),(zX0 P qHl 519 (.ref 48)),(zX0 P yL 547 (.ref 65)),(zX0 P qNj 809 (.ref 73)),(zX0 P qDb 1054 (.ref 231))] 21),#[]⟩
def zMz (P:Params):Obj:=⟨(.type t0),none,(.dict #[(zX0 P qBo 914 (.str kK 289)),(zX0 P zDz 916 (.str qDb 915)),(zX0 P qBn 918 (Jz 17 917)),(zX0 P qHm 927 (.ref 137)),(zX0 P qNi 935 (.ref 144)),(zX0 P qNh 950 (.ref 151)),(zX0 P qNg 958 (.ref 158)),(zX0 P qNf 977 (.ref 165)),(zX0 P qNe 984 (.ref 172)),(zX0 P qNd 991 (.ref 179)),(zX0 P qNc 998 (.ref 186)),(zX0 P qNb 1005 (.ref 193)),(zX0 P qNa 1012 (.ref 200)),(zX0 P qMz 1019 (.ref 207)),(zX0 P qMy 1026 (.ref 214)),(zX0 P qMx 1033 (.ref 221)),(zX0 P qMw 1040 (.ref 228)),(zX0 P qBm 1047 (.ref 229))] 18),#[]⟩
def zMy:Obj:=⟨.none,none,(.fields #[(Iz 19),i4,(.ref 136),(Iz 23),i4,(.ref 143),(Iz 28),i4,(.ref 150),(Iz 53),i4,(.ref 157),(Iz 58),i4,(.ref 164),(Iz 143),i4,(.ref 171),(Iz 147),i4,(.ref 178),(Iz 150),i4,(.ref 185),(Iz 153),i4,(.ref 192),(Iz 156),i4,(.ref 199),(Iz 159),i4,(.ref 206),(Iz 162),i4,(.ref 213),(Iz 165),i4,(.ref 220),(Iz 168),i4,(.ref 227)]),#[]⟩
def zMx:Obj:=⟨(.type xX),none,(.fields #[(.str qDb 909),(.str qDb 910),(.str qR 911),(Iz 17),i0,i0,i0,i0,(.ref 127),(.bool false),kF,(.ref 128),.none,.none,.none,.none,(Iz 912),(Iz 17),(.str qR 913)]),#[]⟩
def zMw:Obj:=⟨(.type qMi),none,.plain,#[(some (.ref 129)),(some (.ref 3)),(some (.ref 126)),none,(some (.str kK 289)),none,(some (.ref 0))]⟩
def zGq:Obj:=⟨(.type t71),none,(.seq #[(.str yK 922),(.str "indentwidth" 923),(.str "tabwidth" 924)] 0),#[]⟩
def zMv:Obj:=⟨.none,none,(Fz (nth (cls (nth TB 11)) 0) qHm "Parser.__init__"),#[]⟩
def zGp:Obj:=⟨(.type xX),none,(.fields #[(.str qHm 919),(.str "Parser.__init__" 920),(.str qR 921),(Iz 19),i3,i0,i0,i3,(.ref 131),(.bool true),kF,(.ref 132),.none,(.ref 133),(.ref 134),(.ref 135),(Iz 925),(Iz 19),(.str qR 926)]),#[]⟩
def zGo:Obj:=⟨(.type vM),none,(Gz (nth (cls (nth TB 11)) 0) qHm "Parser.__init__" (.str kK 289) (.ref 136)),#[]⟩
def zGn:Obj:=⟨(.type t71),none,(.seq #[(.str yK 931),(.str "s" 932)] 0),#[]⟩
def zMu:Obj:=⟨.none,none,(Fz (nth (cls (nth TB 11)) 1) qNi "Parser.set_code"),#[]⟩
def zGm:Obj:=⟨(.type xX),none,(.fields #[(.str qNi 928),(.str "Parser.set_code" 929),(.str qR 930),(Iz 23),i2,i0,i0,i3,(.ref 138),(.bool true),kF,(.ref 139),.none,(.ref 140),(.ref 141),(.ref 142),(Iz 933),(Iz 23),(.str qR 934)]),#[]⟩
def zGl:Obj:=⟨(.type vM),none,(Gz (nth (cls (nth TB 11)) 1) qNi "Parser.set_code" (.str kK 289) (.ref 143)),#[]⟩
def zGk:Obj:=⟨(.type t71),none,(.seq #[(.str yK 939),(.str "is_char_in_string" 940),(.str "code" 941),(.str "pos" 942),(.str "limit" 943),(.str "tries" 944),(.str "i" 945),(.str "m" 946),(.str "s" 947)] 0),#[]⟩
def zMt:Obj:=⟨.none,none,(Fz (nth (cls (nth TB 11)) 2) qNh "Parser.find_good_parse_start"),#[]⟩
def zGj:Obj:=⟨(.type xX),none,(.fields #[(.str qNh 936),(.str "Parser.find_good_parse_start" 937),(.str qR 938),(Iz 28),i2,i0,i0,i3,(.ref 145),(.bool true),kF,(.ref 146),.none,(.ref 147),(.ref 148),(.ref 149),(Iz 948),(Iz 28),(.str qR 949)]),#[]⟩
def zGi:Obj:=⟨(.type vM),none,(Gz (nth (cls (nth TB 11)) 2) qNh "Parser.find_good_parse_start" (.str kK 289) (.ref 150)),#[]⟩
def zGh:Obj:=⟨(.type t71),none,(.seq #[(.str yK 954),(.str "lo" 955)] 0),#[]⟩
def zMs:Obj:=⟨.none,none,(Fz (nth (cls (nth TB 11)) 3) qNg "Parser.set_lo"),#[]⟩
def zGg:Obj:=⟨(.type xX),none,(.fields #[(.str qNg 951),(.str "Parser.set_lo" 952),(.str qR 953),(Iz 53),i2,i0,i0,i3,(.ref 152),(.bool true),kF,(.ref 153),.none,(.ref 154),(.ref 155),(.ref 156),(Iz 956),(Iz 53),(.str qR 957)]),#[]⟩
def zGf:Obj:=⟨(.type vM),none,(Gz (nth (cls (nth TB 11)) 3) qNg "Parser.set_lo" (.str kK 289) (.ref 157)),#[]⟩
def zGe:Obj:=⟨(.type t71),none,(.seq #[(.str yK 962),(.str "code" 963),(.str "continuation" 964),(.str "level" 965),(.str "lno" 966),(.str "goodlines" 967),(.str "push_good" 968),(.str "i" 969),(.str "n" 970),(.str "ch" 971),(.str "quote" 972),(.str "firstlno" 973),(.str "w" 974)] 0),#[]⟩
def zMr:Obj:=⟨.none,none,(Fz (nth (cls (nth TB 11)) 4) qNf "Parser._study1"),#[]⟩
def zGd:Obj:=⟨(.type xX),none,(.fields #[(.str qNf 959),(.str "Parser._study1" 960),(.str qR 961),(Iz 58),i1,i0,i0,i3,(.ref 159),(.bool true),kF,(.ref 160),.none,(.ref 161),(.ref 162),(.ref 163),(Iz 975),(Iz 58),(.str qR 976)]),#[]⟩
def zGc:Obj:=⟨(.type vM),none,(Gz (nth (cls (nth TB 11)) 4) qNf "Parser._study1" (.str kK 289) (.ref 164)),#[]⟩
def zGb:Obj:=⟨(.type t71),none,(.seq #[(.str yK 981)] 0),#[]⟩
def zMq:Obj:=⟨.none,none,(Fz (nth (cls (nth TB 11)) 5) qNe "Parser.get_continuation_type"),#[]⟩
def zGa:Obj:=⟨(.type xX),none,(.fields #[(.str qNe 978),(.str "Parser.get_continuation_type" 979),(.str qR 980),(Iz 143),i1,i0,i0,i3,(.ref 166),(.bool true),kF,(.ref 167),.none,(.ref 168),(.ref 169),(.ref 170),(Iz 982),(Iz 143),(.str qR 983)]),#[]⟩
def zFz:Obj:=⟨(.type vM),none,(Gz (nth (cls (nth TB 11)) 5) qNe "Parser.get_continuation_type" (.str kK 289) (.ref 171)),#[]⟩
def zFy:Obj:=⟨(.type t71),none,(.seq #[(.str yK 988)] 0),#[]⟩
def zMp:Obj:=⟨.none,none,(Fz (nth (cls (nth TB 11)) 6) qNd "Parser._study2"),#[]⟩
def zFx:Obj:=⟨(.type xX),none,(.fields #[(.str qNd 985),(.str "Parser._study2" 986),(.str qR 987),(Iz 147),i1,i0,i0,i3,(.ref 173),(.bool true),kF,(.ref 174),.none,(.ref 175),(.ref 176),(.ref 177),(Iz 989),(Iz 147),(.str qR 990)]),#[]⟩
def zFw:Obj:=⟨(.type vM),none,(Gz (nth (cls (nth TB 11)) 6) qNd "Parser._study2" (.str kK 289) (.ref 178)),#[]⟩
def zFv:Obj:=⟨(.type t71),none,(.seq #[(.str yK 995)] 0),#[]⟩
def zMo:Obj:=⟨.none,none,(Fz (nth (cls (nth TB 11)) 7) qNc "Parser.compute_bracket_indent"),#[]⟩
def zFu:Obj:=⟨(.type xX),none,(.fields #[(.str qNc 992),(.str "Parser.compute_bracket_indent" 993),(.str qR 994),(Iz 150),i1,i0,i0,i3,(.ref 180),(.bool true),kF,(.ref 181),.none,(.ref 182),(.ref 183),(.ref 184),(Iz 996),(Iz 150),(.str qR 997)]),#[]⟩
def zFt:Obj:=⟨(.type vM),none,(Gz (nth (cls (nth TB 11)) 7) qNc "Parser.compute_bracket_indent" (.str kK 289) (.ref 185)),#[]⟩
def zFs:Obj:=⟨(.type t71),none,(.seq #[(.str yK 1002)] 0),#[]⟩
def zMn:Obj:=⟨.none,none,(Fz (nth (cls (nth TB 11)) 8) qNb "Parser.get_num_lines_in_stmt"),#[]⟩
def zFr:Obj:=⟨(.type xX),none,(.fields #[(.str qNb 999),(.str "Parser.get_num_lines_in_stmt" 1000),(.str qR 1001),(Iz 153),i1,i0,i0,i3,(.ref 187),(.bool true),kF,(.ref 188),.none,(.ref 189),(.ref 190),(.ref 191),(Iz 1003),(Iz 153),(.str qR 1004)]),#[]⟩
def zFq:Obj:=⟨(.type vM),none,(Gz (nth (cls (nth TB 11)) 8) qNb "Parser.get_num_lines_in_stmt" (.str kK 289) (.ref 192)),#[]⟩
def zFp:Obj:=⟨(.type t71),none,(.seq #[(.str yK 1009)] 0),#[]⟩
def zMm:Obj:=⟨.none,none,(Fz (nth (cls (nth TB 11)) 9) qNa "Parser.compute_backslash_indent"),#[]⟩
def zFo:Obj:=⟨(.type xX),none,(.fields #[(.str qNa 1006),(.str "Parser.compute_backslash_indent" 1007),(.str qR 1008),(Iz 156),i1,i0,i0,i3,(.ref 194),(.bool true),kF,(.ref 195),.none,(.ref 196),(.ref 197),(.ref 198),(Iz 1010),(Iz 156),(.str qR 1011)]),#[]⟩
def zFn:Obj:=⟨(.type vM),none,(Gz (nth (cls (nth TB 11)) 9) qNa "Parser.compute_backslash_indent" (.str kK 289) (.ref 199)),#[]⟩
def zFm:Obj:=⟨(.type t71),none,(.seq #[(.str yK 1016)] 0),#[]⟩
def zMl:Obj:=⟨.none,none,(Fz (nth (cls (nth TB 11)) 10) qMz "Parser.get_base_indent_string"),#[]⟩
def zFl:Obj:=⟨(.type xX),none,(.fields #[(.str qMz 1013),(.str "Parser.get_base_indent_string" 1014),(.str qR 1015),(Iz 159),i1,i0,i0,i3,(.ref 201),(.bool true),kF,(.ref 202),.none,(.ref 203),(.ref 204),(.ref 205),(Iz 1017),(Iz 159),(.str qR 1018)]),#[]⟩
def zFk:Obj:=⟨(.type vM),none,(Gz (nth (cls (nth TB 11)) 10) qMz "Parser.get_base_indent_string" (.str kK 289) (.ref 206)),#[]⟩
def zFj:Obj:=⟨(.type t71),none,(.seq #[(.str yK 1023)] 0),#[]⟩
def zMk:Obj:=⟨.none,none,(Fz (nth (cls (nth TB 11)) 11) qMy "Parser.is_block_opener"),#[]⟩
def zFi:Obj:=⟨(.type xX),none,(.fields #[(.str qMy 1020),(.str "Parser.is_block_opener" 1021),(.str qR 1022),(Iz 162),i1,i0,i0,i3,(.ref 208),(.bool true),kF,(.ref 209),.none,(.ref 210),(.ref 211),(.ref 212),(Iz 1024),(Iz 162),(.str qR 1025)]),#[]⟩
def zFh:Obj:=⟨(.type vM),none,(Gz (nth (cls (nth TB 11)) 11) qMy "Parser.is_block_opener" (.str kK 289) (.ref 213)),#[]⟩
def zFg:Obj:=⟨(.type t71),none,(.seq #[(.str yK 1030)] 0),#[]⟩
def zMj:Obj:=⟨.none,none,(Fz (nth (cls (nth TB 11)) 12) qMx "Parser.is_block_closer"),#[]⟩
def zFf:Obj:=⟨(.type xX),none,(.fields #[(.str qMx 1027),(.str "Parser.is_block_closer" 1028),(.str qR 1029),(Iz 165),i1,i0,i0,i3,(.ref 215),(.bool true),kF,(.ref 216),.none,(.ref 217),(.ref 218),(.ref 219),(Iz 1031),(Iz 165),(.str qR 1032)]),#[]⟩
def zFe:Obj:=⟨(.type vM),none,(Gz (nth (cls (nth TB 11)) 12) qMx "Parser.is_block_closer" (.str kK 289) (.ref 220)),#[]⟩
def zFd:Obj:=⟨(.type t71),none,(.seq #[(.str yK 1037)] 0),#[]⟩
def zMi:Obj:=⟨.none,none,(Fz (nth (cls (nth TB 11)) 13) qMw "Parser.get_last_stmt_bracketing"),#[]⟩
def zFc:Obj:=⟨(.type xX),none,(.fields #[(.str qMw 1034),(.str "Parser.get_last_stmt_bracketing" 1035),(.str qR 1036),(Iz 168),i1,i0,i0,i3,(.ref 222),(.bool true),kF,(.ref 223),.none,(.ref 224),(.ref 225),(.ref 226),(Iz 1038),(Iz 168),(.str qR 1039)]),#[]⟩
def zFb:Obj:=⟨(.type vM),none,(Gz (nth (cls (nth TB 11)) 13) qMw "Parser.get_last_stmt_bracketing" (.str kK 289) (.ref 227)),#[]⟩
def zFa:Obj:=⟨(.type t71),none,(.seq #[(.str "code" 1041),(.str "continuation" 1042),(.str "goodlines" 1043),(.str "indentwidth" 1044),(.str "study_level" 1045),(.str "tabwidth" 1046)] 0),#[]⟩
def zEz (P:Params):Obj:=⟨(.type t0),none,(.dict #[(zX0 P qBo 914 (.str kK 289)),(zX0 P qBn 918 (Jz 17 917)),(zX0 P qHm 927 (.ref 137)),(zX0 P qNi 935 (.ref 144)),(zX0 P qNh 950 (.ref 151)),(zX0 P qNg 958 (.ref 158)),(zX0 P qNf 977 (.ref 165)),(zX0 P qNe 984 (.ref 172)),(zX0 P qNd 991 (.ref 179)),(zX0 P qNc 998 (.ref 186)),(zX0 P qNb 1005 (.ref 193)),(zX0 P qNa 1012 (.ref 200)),(zX0 P qMz 1019 (.ref 207)),(zX0 P qMy 1026 (.ref 214)),(zX0 P qMx 1033 (.ref 221)),(zX0 P qMw 1040 (.ref 228)),(zX0 P qBm 1047 (.ref 229)),(zX0 P qBl 1049 (.ref 232)),(zX0 P qBk 1051 (.ref 233)),(zX0 P s2 1052 .none)] 4),#[]⟩
def zEy:Obj:=⟨(.type t72),none,(.cls ⟨qDb,[(.type t63)],[(.ref 231),(.type t63)],230,qDb,true,[],[],false,none,false⟩),#[none,none,(some (.str qDb 907)),(some (.str qDb 915)),(some (.builtin (SL.s11443829558043349243x14))),(some (.bool true))]⟩
def zEx:Obj:=⟨(.type qJv),none,(.fields #[(.str qBl 1048),(.ref 231),(.builtin zDb),(.builtin zDa)]),#[]⟩
def zEw:Obj:=⟨(.type qJv),none,(.fields #[(.str qBk 1050),(.ref 231),(.builtin zCz),.none]),#[]⟩
def zMh:Obj:=⟨(.type t70),none,(.fields #[(.ref 231),(.ref 231),(.ref 231)]),#[]⟩
def zMg:Obj:=⟨(.type qWi),none,(.fields #[(.builtin (SL.s4860613602091757760x24)),(.ref 231)]),#[]⟩
def zMf (P:Params):Obj:=⟨(.type t0),none,(.dict #[(zX0 P s0 165 (.str qSs 1055)),(zX0 P s2 166 .none),(zX0 P s3 167 .none),(zX0 P s4 168 (.builtin qRr)),(zX0 P s5 169 .none),(zX0 P qBs 170 (.ref 6)),(zX0 P qBr 171 (.ref 4)),(zX0 P qBq 173 (.str qR 172)),(zX0 P qBp 174 .none),(zX0 P jU 275 (.ref 12)),(zX0 P wZ 288 (.ref 38)),(zX0 P qDc 504 (.ref 43)),(zX0 P qFd 513 (Jz 0 508)),(zX0 P qFc 514 (Jz 1 509)),(zX0 P qFb 515 (Jz 2 510)),(zX0 P qFa 516 (Jz 3 511)),(zX0 P qEz 517 (Jz 4 512)),(zX0 P qHl 519 (.ref 48)),(zX0 P yL 547 (.ref 65)),(zX0 P qNj 809 (.ref 73)),(zX0 P qDb 1054 (.ref 231)),(zX0 P qEy 1062 (.ref 240)),(zX0 P qEx 1076 (.ref 247)),(zX0 P qEw 1085 (.ref 254)),(zX0 P qEv 1091 (.ref 259)),(zX0 P qEu 1097 (.ref 264))] 26),#[]⟩
def zMe:Obj:=⟨(.type xX),none,(.fields #[(.str qEy 1057),(.str qEy 1058),(.str qR 1059),(Iz 171),i1,i0,i0,i3,(.ref 236),(.bool true),kF,(.ref 237),.none,.none,.none,(.ref 238),(Iz 1060),(Iz 171),(.str qR 1061)]),#[]⟩
def zMd:Obj:=⟨(.type vM),none,(Gz (nth TB 13) qEy qEy (.str qSs 1055) (.ref 239)),#[]⟩
def zMc:Obj:=⟨(.type t71),none,(.seq #[(.str "text" 1066),(.str "notes" 1067),(.str "mode" 1068),(.str "opened" 1069),(.str "place" 1070),(.str "sign" 1071),(.str "size" 1072),(.str "eaten" 1073)] 0),#[]⟩
def zMb:Obj:=⟨(.type xX),none,(.fields #[(.str qEx 1063),(.str qEx 1064),(.str qR 1065),(Iz 176),i1,i0,i0,i3,(.ref 241),(.bool true),kF,(.ref 242),.none,(.ref 243),(.ref 244),(.ref 245),(Iz 1074),(Iz 176),(.str qR 1075)]),#[]⟩
def zMa:Obj:=⟨(.type vM),none,(Gz (nth TB 14) qEx qEx (.str qSs 1055) (.ref 246)),#[]⟩
def zLz:Obj:=⟨(.type t71),none,(.seq #[(.str "row" 1080),(.str "bare" 1081),(.str "end" 1082)] 0),#[]⟩
def zLy:Obj:=⟨(.type xX),none,(.fields #[(.str qEw 1077),(.str qEw 1078),(.str qR 1079),(Iz 207),i1,i0,i0,i3,(.ref 248),(.bool true),kF,(.ref 249),.none,(.ref 250),(.ref 251),(.ref 252),(Iz 1083),(Iz 207),(.str qR 1084)]),#[]⟩
def zLx:Obj:=⟨(.type vM),none,(Gz (nth TB 15) qEw qEw (.str qSs 1055) (.ref 253)),#[]⟩
def zLw:Obj:=⟨(.type xX),none,(.fields #[(.str qEv 1086),(.str qEv 1087),(.str qR 1088),(Iz 213),i2,i0,i0,i3,(.ref 255),(.bool true),kF,(.ref 256),.none,.none,.none,(.ref 257),(Iz 1089),(Iz 213),(.str qR 1090)]),#[]⟩
def zLv:Obj:=⟨(.type vM),none,(Gz (nth TB 16) qEv qEv (.str qSs 1055) (.ref 258)),#[]⟩
def zLu:Obj:=⟨(.type xX),none,(.fields #[(.str qEu 1092),(.str qEu 1093),(.str qR 1094),(Iz 229),i1,i0,i0,i3,(.ref 260),(.bool true),kF,(.ref 261),.none,.none,.none,(.ref 262),(Iz 1095),(Iz 229),(.str qR 1096)]),#[]⟩
def zLt:Obj:=⟨(.type vM),none,(Gz (nth TB 17) qEu qEu (.str qSs 1055) (.ref 263)),#[]⟩
def zRa (P:Params):Obj:=⟨(.type t0),none,(.dict #[(zX0 P s0 247 (.str jU 246)),(zX0 P s2 248 .none),(zX0 P s3 250 (.str zEk 249)),(zX0 P s4 251 (.ref 14)),(zX0 P s5 252 (.ref 26)),(zX0 P s16 253 (.builtin (SL.s492968859115322481x12))),(zX0 P zEj 254 (.builtin (SL.s4732307381456220424x13))),(zX0 P zEi 255 (.builtin (SL.s3100639726926479615x16))),(zX0 P zEh 256 (.builtin (SL.s1824190863884607803x18))),(zX0 P zEg 257 (.builtin (SL.s15517275503517908518x20))),(zX0 P zEf 258 (.builtin (SL.s13462958993096105742x18))),(zX0 P zEe 259 (.builtin (SL.s7205697838950415266x20))),(zX0 P zEd 261 (Jz 20230612 260)),(zX0 P zEc 263 (Jz 4 262)),(zX0 P zEb 265 (Jz 4294967295 264)),(zX0 P zEa 267 (Jz 1073741823 266)),(zX0 P qSw 269 (.str " SRE 2.2.2 Copyright (c) 1997-2002 by Secret Labs AB " 268))] 17),#[]⟩
noncomputable def env:Env:={ scope:=pw_dm0167_02.main.scope,locals:=mainNs,globals:=mainNs,cells:=[],code:=.ref 30,frame:=some 31 }
def l0:List Stmt:=[nth TB 1,nth TB 2,nth TB 3]
def l1:List Stmt:=[nth TB 4,nth TB 5,nth TB 6]
def l2:List Stmt:=[nth TB 7]
def l3:List Stmt:=[nth TB 8]
def l4:List Stmt:=[nth TB 9]
def l5:List Stmt:=[nth TB 10]
def l6:List Stmt:=[nth TB 11]
def l7:List Stmt:=[nth TB 12,nth TB 13,nth TB 14,nth TB 15,nth TB 16,nth TB 17]
def bE:List Stmt:=l0++(l1++(l2++(l3++(l4++(l5++(l6++(l7++(([]:List Stmt)))))))))
def cE:Code:=.body bE env
noncomputable def q:Pos:=⟨0,0,0,0⟩
def vU (l:List Stmt) (p:Pos):Thread:=⟨PySem.Sem.wrap doneF deadEnd id id (tw12563942051412417395 l env),cE,p,[topFrame q]⟩
theorem jX (l:List Stmt) (p:Pos):piecesOf l env cE p [topFrame q]=vU l p:=by
 show (⟨(execs l env).wrap doneF deadEnd id id,cE,p,[topFrame q]⟩:Thread)=_
 delta vU
 rw [te12563942051412417395]
def L0 (P:Params):List Obj:=[(o0 P),(o1 P),(o2 P),(o3 P),o4,o5,o6,o7,o8,o9,o10,(o11 P),o12,(o13 P),o14,o7,o15,o16,o17,o18,(o19 P),(o20 P),o21,o22,o23,o24,o25,o26]
def S0 (w:World) (os:OsState):SharedT:=⟨bt 12 (L0 w.params),28,{},#[],⟨0,0,0,0⟩,276,os⟩
def L1 (P:Params):List Obj:=[(o0 P),(o1 P),(o2 P),(o3 P),o4,o5,o6,o7,o8,o9,o10,(o11 P),o12,(o13 P),o14,o7,o15,o16,o17,o18,(o19 P),(o20 P),o21,o22,o23,o24,o25,o26,o7,o8,o27,o28]
def S1 (w:World) (os:OsState):SharedT:=⟨bt 12 (L1 w.params),32,{},#[],⟨0,0,0,0⟩,282,os⟩
def L2 (P:Params):List Obj:=[(o0 P),(o1 P),(o2 P),(o3 P),o4,o5,o6,o7,o8,o9,o10,(o11 P),o12,(o13 P),o14,o7,o15,o16,o17,o18,(o19 P),(o20 P),o21,o22,o23,o24,o25,o26,o7,o8,o27,o28]
def S2 (w:World) (os:OsState):SharedT:=⟨bt 12 (L2 w.params),32,{},#[],⟨0,0,0,0⟩,282,os⟩
def L3 (P:Params):List Obj:=[(o0 P),(o1 P),(o2 P),(o29 P),o4,o5,o6,o7,o8,o9,o10,(o11 P),o12,(o13 P),o14,o7,o15,o16,o17,o18,(o19 P),(o20 P),o21,o22,o23,o24,o25,o26,o7,(⟨.none,none,(.fields #[i2,i0,(.ref 37)]),#[]⟩:Obj),o27,o28,o7,o8,o31,o7,o32,o33,o34,o35,o6,o36,o37,o38]
def S3 (w:World) (os:OsState):SharedT:=⟨bt 12 (L3 w.params),44,{},#[],⟨0,0,0,0⟩,505,os⟩
def L4 (P:Params):List Obj:=[(o0 P),(o1 P),(o2 P),(o39 P),o4,o5,o6,o7,o8,o9,o10,(o11 P),o12,(o13 P),o14,o7,o15,o16,o17,o18,(o19 P),(o20 P),o21,o22,o23,o24,o25,o26,o7,o40,o27,o28,o7,o8,o31,o7,o32,o33,o34,o35,o6,o36,o37,o38,o41,o42,o7,o43,o44,o45,o46,(o47 P),o7,o48,o49,o50,o7,o8,o51,o7,o52,o53,o54,o7,(o55 P),o56,o57,o58,o59,o60]
def S4 (w:World) (os:OsState):SharedT:=⟨bt 12 (L4 w.params),70,{},#[],⟨0,0,0,0⟩,548,os⟩
def L5 (P:Params):List Obj:=[(o0 P),(o1 P),(o2 P),(o39 P),o4,o5,o6,o7,o8,o9,o10,(o11 P),o12,(o13 P),o14,o7,o15,o16,o17,o18,(o19 P),(o20 P),o21,o22,o23,o24,o25,o26,o7,o40,o27,o28,o7,o8,o31,o7,o32,o33,o34,o35,o6,o36,o37,o38,o41,o42,o7,o43,o44,o45,o46,(o47 P),o7,o48,o49,o50,o7,o8,o51,o7,o52,o53,o54,o7,(o55 P),o56,o57,o58,o59,o60,o61,o62,o6,(⟨(.ref 65),(some 72),(.dict #[] 0),#[]⟩:Obj),(⟨(.type qEs),none,(.fields #[i0,(Iz 128),i1]),#[]⟩:Obj)]
def S5 (w:World) (os:OsState):SharedT:=⟨bt 12 (L5 w.params),75,{},#[],⟨0,0,0,0⟩,553,os⟩
def L6 (P:Params):List Obj:=[(o0 P),(o1 P),(o2 P),(o39 P),o4,o5,o6,o7,o8,o9,o10,(o11 P),o12,(o13 P),o14,o7,o15,o16,o17,o18,(o19 P),(o20 P),o21,o22,o23,o24,o25,o26,o7,o40,o27,o28,o7,o8,o31,o7,o32,o33,o34,o35,o6,o36,o37,o38,o41,o42,o7,o43,o44,o45,o46,(o47 P),o7,o48,o49,o50,o7,o8,o51,o7,o52,o53,o54,o7,(o55 P),o56,o57,o58,o59,o60,o61,o62,o6,(⟨(.ref 65),(some 72),(.dict #[e0,e1,e2,e3,e4,e5,e6,e7,e8,e9,e10,e11,e12,e13,e14,e15] 16),#[]⟩:Obj),(⟨(.type qEs),none,(.fields #[i16,(Iz 112),i1]),#[]⟩:Obj)]
def S6 (w:World) (os:OsState):SharedT:=⟨bt 12 (L6 w.params),75,{},#[],⟨0,0,0,0⟩,585,os⟩
def L7 (P:Params):List Obj:=[(o0 P),(o1 P),(o2 P),(o39 P),o4,o5,o6,o7,o8,o9,o10,(o11 P),o12,(o13 P),o14,o7,o15,o16,o17,o18,(o19 P),(o20 P),o21,o22,o23,o24,o25,o26,o7,o40,o27,o28,o7,o8,o31,o7,o32,o33,o34,o35,o6,o36,o37,o38,o41,o42,o7,o43,o44,o45,o46,(o47 P),o7,o48,o49,o50,o7,o8,o51,o7,o52,o53,o54,o7,(o55 P),o56,o57,o58,o59,o60,o61,o62,o6,(⟨(.ref 65),(some 72),(.dict #[e0,e1,e2,e3,e4,e5,e6,e7,e8,e9,e10,e11,e12,e13,e14,e15,e16,e17,e18,e19,e20,e21,e22,e23,e24,e25,e26,e27,e28,e29,e30,e31] 32),#[]⟩:Obj),(⟨(.type qEs),none,(.fields #[(Iz 32),(Iz 96),i1]),#[]⟩:Obj)]
def S7 (w:World) (os:OsState):SharedT:=⟨bt 12 (L7 w.params),75,{},#[],⟨0,0,0,0⟩,617,os⟩
def L8 (P:Params):List Obj:=[(o0 P),(o1 P),(o2 P),(o39 P),o4,o5,o6,o7,o8,o9,o10,(o11 P),o12,(o13 P),o14,o7,o15,o16,o17,o18,(o19 P),(o20 P),o21,o22,o23,o24,o25,o26,o7,o40,o27,o28,o7,o8,o31,o7,o32,o33,o34,o35,o6,o36,o37,o38,o41,o42,o7,o43,o44,o45,o46,(o47 P),o7,o48,o49,o50,o7,o8,o51,o7,o52,o53,o54,o7,(o55 P),o56,o57,o58,o59,o60,o61,o62,o6,(⟨(.ref 65),(some 72),(.dict #[e0,e1,e2,e3,e4,e5,e6,e7,e8,e9,e10,e11,e12,e13,e14,e15,e16,e17,e18,e19,e20,e21,e22,e23,e24,e25,e26,e27,e28,e29,e30,e31,e32,e33,e34,e35,e36,e37,e38,e39,e40,e41,e42,e43,e44,e45,e46,e47] 48),#[]⟩:Obj),(⟨(.type qEs),none,(.fields #[(Iz 48),(Iz 80),i1]),#[]⟩:Obj)]
def S8 (w:World) (os:OsState):SharedT:=⟨bt 12 (L8 w.params),75,{},#[],⟨0,0,0,0⟩,649,os⟩
def L9 (P:Params):List Obj:=[(o0 P),(o1 P),(o2 P),(o39 P),o4,o5,o6,o7,o8,o9,o10,(o11 P),o12,(o13 P),o14,o7,o15,o16,o17,o18,(o19 P),(o20 P),o21,o22,o23,o24,o25,o26,o7,o40,o27,o28,o7,o8,o31,o7,o32,o33,o34,o35,o6,o36,o37,o38,o41,o42,o7,o43,o44,o45,o46,(o47 P),o7,o48,o49,o50,o7,o8,o51,o7,o52,o53,o54,o7,(o55 P),o56,o57,o58,o59,o60,o61,o62,o6,(⟨(.ref 65),(some 72),(.dict #[e0,e1,e2,e3,e4,e5,e6,e7,e8,e9,e10,e11,e12,e13,e14,e15,e16,e17,e18,e19,e20,e21,e22,e23,e24,e25,e26,e27,e28,e29,e30,e31,e32,e33,e34,e35,e36,e37,e38,e39,e40,e41,e42,e43,e44,e45,e46,e47,e48,e49,e50,e51,e52,e53,e54,e55,e56,e57,e58,e59,e60,e61,e62,e63] 64),#[]⟩:Obj),(⟨(.type qEs),none,(.fields #[(Iz 64),(Iz 64),i1]),#[]⟩:Obj)]
def S9 (w:World) (os:OsState):SharedT:=⟨bt 12 (L9 w.params),75,{},#[],⟨0,0,0,0⟩,681,os⟩
def L10 (P:Params):List Obj:=[(o0 P),(o1 P),(o2 P),(o39 P),o4,o5,o6,o7,o8,o9,o10,(o11 P),o12,(o13 P),o14,o7,o15,o16,o17,o18,(o19 P),(o20 P),o21,o22,o23,o24,o25,o26,o7,o40,o27,o28,o7,o8,o31,o7,o32,o33,o34,o35,o6,o36,o37,o38,o41,o42,o7,o43,o44,o45,o46,(o47 P),o7,o48,o49,o50,o7,o8,o51,o7,o52,o53,o54,o7,(o55 P),o56,o57,o58,o59,o60,o61,o62,o6,(⟨(.ref 65),(some 72),(.dict #[e0,e1,e2,e3,e4,e5,e6,e7,e8,e9,e10,e11,e12,e13,e14,e15,e16,e17,e18,e19,e20,e21,e22,e23,e24,e25,e26,e27,e28,e29,e30,e31,e32,e33,e34,e35,e36,e37,e38,e39,e40,e41,e42,e43,e44,e45,e46,e47,e48,e49,e50,e51,e52,e53,e54,e55,e56,e57,e58,e59,e60,e61,e62,e63,e64,e65,e66,e67,e68,e69,e70,e71,e72,e73,e74,e75,e76,e77,e78,e79] 80),#[]⟩:Obj),(⟨(.type qEs),none,(.fields #[(Iz 80),(Iz 48),i1]),#[]⟩:Obj)]
def S10 (w:World) (os:OsState):SharedT:=⟨bt 12 (L10 w.params),75,{},#[],⟨0,0,0,0⟩,713,os⟩
def L11 (P:Params):List Obj:=[(o0 P),(o1 P),(o2 P),(o39 P),o4,o5,o6,o7,o8,o9,o10,(o11 P),o12,(o13 P),o14,o7,o15,o16,o17,o18,(o19 P),(o20 P),o21,o22,o23,o24,o25,o26,o7,o40,o27,o28,o7,o8,o31,o7,o32,o33,o34,o35,o6,o36,o37,o38,o41,o42,o7,o43,o44,o45,o46,(o47 P),o7,o48,o49,o50,o7,o8,o51,o7,o52,o53,o54,o7,(o55 P),o56,o57,o58,o59,o60,o61,o62,o6,(⟨(.ref 65),(some 72),(.dict #[e0,e1,e2,e3,e4,e5,e6,e7,e8,e9,e10,e11,e12,e13,e14,e15,e16,e17,e18,e19,e20,e21,e22,e23,e24,e25,e26,e27,e28,e29,e30,e31,e32,e33,e34,e35,e36,e37,e38,e39,e40,e41,e42,e43,e44,e45,e46,e47,e48,e49,e50,e51,e52,e53,e54,e55,e56,e57,e58,e59,e60,e61,e62,e63,e64,e65,e66,e67,e68,e69,e70,e71,e72,e73,e74,e75,e76,e77,e78,e79,e80,e81,e82,e83,e84,e85,e86,e87,e88,e89,e90,e91,e92,e93,e94,e95] 96),#[]⟩:Obj),(⟨(.type qEs),none,(.fields #[(Iz 96),(Iz 32),i1]),#[]⟩:Obj)]
def S11 (w:World) (os:OsState):SharedT:=⟨bt 12 (L11 w.params),75,{},#[],⟨0,0,0,0⟩,745,os⟩
def L12 (P:Params):List Obj:=[(o0 P),(o1 P),(o2 P),(o39 P),o4,o5,o6,o7,o8,o9,o10,(o11 P),o12,(o13 P),o14,o7,o15,o16,o17,o18,(o19 P),(o20 P),o21,o22,o23,o24,o25,o26,o7,o40,o27,o28,o7,o8,o31,o7,o32,o33,o34,o35,o6,o36,o37,o38,o41,o42,o7,o43,o44,o45,o46,(o47 P),o7,o48,o49,o50,o7,o8,o51,o7,o52,o53,o54,o7,(o55 P),o56,o57,o58,o59,o60,o61,o62,o6,(⟨(.ref 65),(some 72),(.dict #[e0,e1,e2,e3,e4,e5,e6,e7,e8,e9,e10,e11,e12,e13,e14,e15,e16,e17,e18,e19,e20,e21,e22,e23,e24,e25,e26,e27,e28,e29,e30,e31,e32,e33,e34,e35,e36,e37,e38,e39,e40,e41,e42,e43,e44,e45,e46,e47,e48,e49,e50,e51,e52,e53,e54,e55,e56,e57,e58,e59,e60,e61,e62,e63,e64,e65,e66,e67,e68,e69,e70,e71,e72,e73,e74,e75,e76,e77,e78,e79,e80,e81,e82,e83,e84,e85,e86,e87,e88,e89,e90,e91,e92,e93,e94,e95,e96,e97,e98,e99,qUs,qUr,qUq,qUp,qUo,qUn,qUm,qUl,qUk,qUj,qUi,qUh] 112),#[]⟩:Obj),(⟨(.type qEs),none,(.fields #[(Iz 112),i16,i1]),#[]⟩:Obj)]
def S12 (w:World) (os:OsState):SharedT:=⟨bt 12 (L12 w.params),75,{},#[],⟨0,0,0,0⟩,777,os⟩
def L13 (P:Params):List Obj:=[(o0 P),(o1 P),(o2 P),(o39 P),o4,o5,o6,o7,o8,o9,o10,(o11 P),o12,(o13 P),o14,o7,o15,o16,o17,o18,(o19 P),(o20 P),o21,o22,o23,o24,o25,o26,o7,o40,o27,o28,o7,o8,o31,o7,o32,o33,o34,o35,o6,o36,o37,o38,o41,o42,o7,o43,o44,o45,o46,(o47 P),o7,o48,o49,o50,o7,o8,o51,o7,o52,o53,o54,o7,(o55 P),o56,o57,o58,o59,o60,o61,o62,o6,(⟨(.ref 65),(some 72),(.dict #[e0,e1,e2,e3,e4,e5,e6,e7,e8,e9,e10,e11,e12,e13,e14,e15,e16,e17,e18,e19,e20,e21,e22,e23,e24,e25,e26,e27,e28,e29,e30,e31,e32,e33,e34,e35,e36,e37,e38,e39,e40,e41,e42,e43,e44,e45,e46,e47,e48,e49,e50,e51,e52,e53,e54,e55,e56,e57,e58,e59,e60,e61,e62,e63,e64,e65,e66,e67,e68,e69,e70,e71,e72,e73,e74,e75,e76,e77,e78,e79,e80,e81,e82,e83,e84,e85,e86,e87,e88,e89,e90,e91,e92,e93,e94,e95,e96,e97,e98,e99,qUs,qUr,qUq,qUp,qUo,qUn,qUm,qUl,qUk,qUj,qUi,qUh,zBf,zBe,zBd,zBc,zBb,zBa,zAz,zAy,zAx,zAw,zAv,⟨(.ofNat 123),(Jz 123 799),(Jz 120 552)⟩,zAu,⟨(.ofNat 125),(Jz 125 803),(Jz 120 552)⟩,zAt,zAs] 128),#[]⟩:Obj),o80]
def S13 (w:World) (os:OsState):SharedT:=⟨bt 12 (L13 w.params),75,{},#[],⟨0,0,0,0⟩,809,os⟩
def L14 (P:Params):List Obj:=[(o0 P),(o1 P),(o2 P),(o81 P),o4,o5,o6,o7,o8,o9,o10,(o11 P),o12,(o13 P),o14,o7,o15,o16,o17,o18,(o19 P),(o20 P),o21,o22,o23,o24,o25,o26,o7,o40,o27,o28,o7,o8,o31,o7,o32,o33,o34,o35,o6,o36,o37,o38,o41,o42,o7,o43,o44,o45,o46,(o47 P),o7,o48,o49,o50,o7,o8,o51,o7,o52,o53,o54,o7,(o55 P),o56,o57,o58,o59,o60,o61,o62,o6,(⟨(.ref 65),(some 72),(.dict #[e0,e1,e2,e3,e4,e5,e6,e7,e8,e9,e10,e11,e12,e13,e14,e15,e16,e17,e18,e19,e20,e21,e22,e23,e24,e25,e26,e27,e28,e29,e30,e31,e32,e33,e34,e35,e36,e37,e38,e39,e40,e41,e42,e43,e44,e45,e46,e47,e48,e49,e50,e51,e52,e53,e54,e55,e56,e57,e58,e59,e60,e61,e62,e63,e64,e65,e66,e67,e68,e69,e70,e71,e72,e73,e74,e75,e76,e77,e78,e79,e80,e81,e82,e83,e84,e85,e86,e87,e88,e89,e90,e91,e92,e93,e94,e95,e96,e97,e98,e99,qUs,qUr,qUq,qUp,qUo,qUn,qUm,qUl,qUk,qUj,qUi,qUh,zBf,zBe,zBd,zBc,zBb,zBa,zAz,zAy,zAx,zAw,zAv,⟨(.ofNat 123),(Jz 123 799),(Jz 120 552)⟩,zAu,⟨(.ofNat 125),(Jz 125 803),(Jz 120 552)⟩,zAt,zAs] 128),#[]⟩:Obj),o80,o7,o82]
def S14 (w:World) (os:OsState):SharedT:=⟨bt 12 (L14 w.params),77,{},#[],⟨0,0,0,0⟩,810,os⟩
def L15 (P:Params):List Obj:=[(o0 P),(o1 P),(o2 P),(o81 P),o4,o5,o6,o7,o8,o9,o10,(o11 P),o12,(o13 P),o14,o7,o15,o16,o17,o18,(o19 P),(o20 P),o21,o22,o23,o24,o25,o26,o7,(⟨.none,none,(.fields #[i2,i0,(.ref 37),i9,i0,(.ref 54),(Iz 14),i13,(.ref 80)]),#[]⟩:Obj),o27,o28,o7,o8,o31,o7,o32,o33,o34,o35,o6,o36,o37,o38,o41,o42,o7,o43,o44,o45,o46,(o47 P),o7,o48,o49,o50,o7,o8,o51,o7,o52,o53,o54,o7,(o55 P),o56,o57,o58,o59,o60,o61,o62,o6,(⟨(.ref 65),(some 72),(.dict #[e0,e1,e2,e3,e4,e5,e6,e7,e8,e9,e10,e11,e12,e13,e14,e15,e16,e17,e18,e19,e20,e21,e22,e23,e24,e25,e26,e27,e28,e29,e30,e31,e32,e33,e34,e35,e36,e37,e38,e39,zOd,e41,e42,e43,e44,e45,e46,e47,e48,e49,e50,e51,e52,e53,e54,e55,e56,e57,e58,e59,e60,e61,e62,e63,e64,e65,e66,e67,e68,e69,e70,e71,e72,e73,e74,e75,e76,e77,e78,e79,e80,e81,e82,e83,e84,e85,e86,e87,e88,e89,e90,zOc,e92,e93,e94,e95,e96,e97,e98,e99,qUs,qUr,qUq,qUp,qUo,qUn,qUm,qUl,qUk,qUj,qUi,qUh,zBf,zBe,zBd,zBc,zBb,zBa,zAz,zAy,zAx,zAw,zAv,zOb,zAu,⟨(.ofNat 125),(Jz 125 803),(Jz 120 552)⟩,zAt,zAs] 128),#[]⟩:Obj),o80,o7,o82,o85,o7,o8,o86,(o87 P),o88,o89,o90,o91,o92,o93,o7,o94,o7,o95]
def S15 (w:World) (os:OsState):SharedT:=⟨bt 12 (L15 w.params),92,{},#[GenState.finished],⟨0,0,0,0⟩,840,os⟩
def L16 (P:Params):List Obj:=[(o0 P),(o1 P),(o2 P),(o81 P),o4,o5,o6,o7,o8,o9,o10,(o11 P),o12,(o13 P),o14,o7,o15,o16,o17,o18,(o19 P),(o20 P),o21,o22,o23,o24,o25,o26,o7,(⟨.none,none,(.fields #[i2,i0,(.ref 37),i9,i0,(.ref 54),(Iz 14),i13,(.ref 80),i15,i13,(.ref 95)]),#[]⟩:Obj),o27,o28,o7,o8,o31,o7,o32,o33,o34,o35,o6,o36,o37,o38,o41,o42,o7,o43,o44,o45,o46,(o47 P),o7,o48,o49,o50,o7,o8,o51,o7,o52,o53,o54,o7,(o55 P),o56,o57,o58,o59,o60,o61,o62,o6,(⟨(.ref 65),(some 72),(.dict #[e0,e1,e2,e3,e4,e5,e6,e7,e8,e9,e10,e11,e12,e13,e14,e15,e16,e17,e18,e19,e20,e21,e22,e23,e24,e25,e26,e27,e28,e29,e30,e31,e32,e33,e34,e35,e36,e37,e38,e39,zOd,⟨(.ofNat 41),(Jz 41 635),(Jz 41 856)⟩,e42,e43,e44,e45,e46,e47,e48,e49,e50,e51,e52,e53,e54,e55,e56,e57,e58,e59,e60,e61,e62,e63,e64,e65,e66,e67,e68,e69,e70,e71,e72,e73,e74,e75,e76,e77,e78,e79,e80,e81,e82,e83,e84,e85,e86,e87,e88,e89,e90,zOc,e92,⟨(.ofNat 93),(Jz 93 739),(Jz 41 868)⟩,e94,e95,e96,e97,e98,e99,qUs,qUr,qUq,qUp,qUo,qUn,qUm,qUl,qUk,qUj,qUi,qUh,zBf,zBe,zBd,zBc,zBb,zBa,zAz,zAy,zAx,zAw,zAv,zOb,zAu,⟨(.ofNat 125),(Jz 125 803),(Jz 41 862)⟩,zAt,zAs] 128),#[]⟩:Obj),o80,o7,o82,o85,o7,o8,o86,(o87 P),o88,o89,o90,o91,o92,o93,o7,o94,o7,o95,o85,o7,o8,o98,(o99 P),qYk,qYj,qYi,qYh,qYg,qYf,o7,qYe,o7,qYd]
def S16 (w:World) (os:OsState):SharedT:=⟨bt 12 (L16 w.params),107,{},#[GenState.finished,GenState.finished],⟨0,0,0,0⟩,870,os⟩
def L17 (P:Params):List Obj:=[(o0 P),(o1 P),(o2 P),(o81 P),o4,o5,o6,o7,o8,o9,o10,(o11 P),o12,(o13 P),o14,o7,o15,o16,o17,o18,(o19 P),(o20 P),o21,o22,o23,o24,o25,o26,o7,(⟨.none,none,(.fields #[i2,i0,(.ref 37),i9,i0,(.ref 54),(Iz 14),i13,(.ref 80),i15,i13,(.ref 95),i16,i13,(.ref 110)]),#[]⟩:Obj),o27,o28,o7,o8,o31,o7,o32,o33,o34,o35,o6,o36,o37,o38,o41,o42,o7,o43,o44,o45,o46,(o47 P),o7,o48,o49,o50,o7,o8,o51,o7,o52,o53,o54,o7,(o55 P),o56,o57,o58,o59,o60,o61,o62,o6,qYc,o80,o7,o82,o85,o7,o8,o86,(o87 P),o88,o89,o90,o91,o92,o93,o7,o94,o7,o95,o85,o7,o8,o98,(o99 P),qYk,qYj,qYi,qYh,qYg,qYf,o7,qYe,o7,qYd,zHd,o7,o8,zHc,(zHb P),zHa,zGz,zGy,zGx,zGw,zGv,zGu,zGt,o7,zGs,o7,zGr]
def S17 (w:World) (os:OsState):SharedT:=⟨bt 12 (L17 w.params),124,{},#[GenState.finished,GenState.finished,GenState.finished],⟨0,0,0,0⟩,907,os⟩
def L18 (P:Params):List Obj:=[(o0 P),(o1 P),(o2 P),(zRb P),o4,o5,o6,o7,o8,o9,o10,(o11 P),o12,(o13 P),o14,o7,o15,o16,o17,o18,(o19 P),(o20 P),o21,o22,o23,o24,o25,o26,o7,(⟨.none,none,(.fields #[i2,i0,(.ref 37),i9,i0,(.ref 54),(Iz 14),i13,(.ref 80),i15,i13,(.ref 95),i16,i13,(.ref 110),(Iz 17),i0,(.ref 129)]),#[]⟩:Obj),o27,o28,o7,o8,o31,o7,o32,o33,o34,o35,o6,o36,o37,o38,o41,o42,o7,o43,o44,o45,o46,(o47 P),o7,o48,o49,o50,o7,o8,o51,o7,o52,o53,o54,o7,(o55 P),o56,o57,o58,o59,o60,o61,o62,o6,qYc,o80,o7,o82,o85,o7,o8,o86,(o87 P),o88,o89,o90,o91,o92,o93,o7,o94,o7,o95,o85,o7,o8,o98,(o99 P),qYk,qYj,qYi,qYh,qYg,qYf,o7,qYe,o7,qYd,zHd,o7,o8,zHc,(zHb P),zHa,zGz,zGy,zGx,zGw,zGv,zGu,zGt,o7,zGs,o7,zGr,o7,o46,(zMz P),o7,zMy,zMx,zMw,o7,o8,zGq,o7,zMv,zGp,zGo,o7,o8,zGn,o7,zMu,zGm,zGl,o7,o8,zGk,o7,zMt,zGj,zGi,o7,o8,zGh,o7,zMs,zGg,zGf,o7,o8,zGe,o7,zMr,zGd,zGc,o7,o8,zGb,o7,zMq,zGa,zFz,o7,o8,zFy,o7,zMp,zFx,zFw,o7,o8,zFv,o7,zMo,zFu,zFt,o7,o8,zFs,o7,zMn,zFr,zFq,o7,o8,zFp,o7,zMm,zFo,zFn,o7,o8,zFm,o7,zMl,zFl,zFk,o7,o8,zFj,o7,zMk,zFi,zFh,o7,o8,zFg,o7,zMj,zFf,zFe,o7,o8,zFd,o7,zMi,zFc,zFb,zFa,(zEz P),zEy,zEx,zEw,zMh,zMg]
def S18 (w:World) (os:OsState):SharedT:=⟨bt 12 (L18 w.params),236,{},#[GenState.finished,GenState.finished,GenState.finished],⟨0,0,0,0⟩,1055,os⟩
def L19 (P:Params):List Obj:=[(o0 P),(o1 P),(o2 P),(zMf P),o4,o5,o6,o7,o8,o9,o10,(o11 P),o12,(o13 P),o14,o7,o15,o16,o17,o18,(o19 P),(o20 P),o21,o22,o23,o24,o25,o26,o7,(⟨.none,none,(.fields #[i2,i0,(.ref 37),i9,i0,(.ref 54),(Iz 14),i13,(.ref 80),i15,i13,(.ref 95),i16,i13,(.ref 110),(Iz 17),i0,(.ref 129),(Iz 171),i0,(.ref 239),(Iz 176),i0,(.ref 246),(Iz 207),i0,(.ref 253),(Iz 213),i0,(.ref 258),(Iz 229),i0,(.ref 263)]),#[]⟩:Obj),o27,o28,o7,o8,o31,o7,o32,o33,o34,o35,o6,o36,o37,o38,o41,o42,o7,o43,o44,o45,o46,(o47 P),o7,o48,o49,o50,o7,o8,o51,o7,o52,o53,o54,o7,(o55 P),o56,o57,o58,o59,o60,o61,o62,o6,qYc,o80,o7,o82,o85,o7,o8,o86,(o87 P),o88,o89,o90,o91,o92,o93,o7,o94,o7,o95,o85,o7,o8,o98,(o99 P),qYk,qYj,qYi,qYh,qYg,qYf,o7,qYe,o7,qYd,zHd,o7,o8,zHc,(zHb P),zHa,zGz,zGy,zGx,zGw,zGv,zGu,zGt,o7,zGs,o7,zGr,o7,o46,(zMz P),o7,zMy,zMx,zMw,o7,o8,zGq,o7,zMv,zGp,zGo,o7,o8,zGn,o7,zMu,zGm,zGl,o7,o8,zGk,o7,zMt,zGj,zGi,o7,o8,zGh,o7,zMs,zGg,zGf,o7,o8,zGe,o7,zMr,zGd,zGc,o7,o8,zGb,o7,zMq,zGa,zFz,o7,o8,zFy,o7,zMp,zFx,zFw,o7,o8,zFv,o7,zMo,zFu,zFt,o7,o8,zFs,o7,zMn,zFr,zFq,o7,o8,zFp,o7,zMm,zFo,zFn,o7,o8,zFm,o7,zMl,zFl,zFk,o7,o8,zFj,o7,zMk,zFi,zFh,o7,o8,zFg,o7,zMj,zFf,zFe,o7,o8,zFd,o7,zMi,zFc,zFb,zFa,(zEz P),zEy,zEx,zEw,zMh,zMg,o7,o8,(⟨.none,none,(Fz (nth TB 13) qEy qEy),#[]⟩:Obj),zMe,zMd,o7,o8,zMc,o7,(⟨.none,none,(Fz (nth TB 14) qEx qEx),#[]⟩:Obj),zMb,zMa,o7,o8,zLz,o7,(⟨.none,none,(Fz (nth TB 15) qEw qEw),#[]⟩:Obj),zLy,zLx,o7,o8,(⟨.none,none,(Fz (nth TB 16) qEv qEv),#[]⟩:Obj),zLw,zLv,o7,o8,(⟨.none,none,(Fz (nth TB 17) qEu qEu),#[]⟩:Obj),zLu,zLt]
def S19 (w:World) (os:OsState):SharedT:=⟨bt 12 (L19 w.params),265,{},#[GenState.finished,GenState.finished,GenState.finished],⟨0,0,0,0⟩,1098,os⟩
def L20 (P:Params):List Obj:=[(o0 P),(o1 P),(o2 P),(zMf P),o4,o5,o6,o7,o8,o9,o10,(o11 P),o12,(o13 P),o14,o7,o15,o16,o17,o18,(o19 P),(o20 P),o21,o22,o23,o24,o25,o26,o7,(⟨.none,none,(.fields #[i2,i0,(.ref 37),i9,i0,(.ref 54),(Iz 14),i13,(.ref 80),i15,i13,(.ref 95),i16,i13,(.ref 110),(Iz 17),i0,(.ref 129),(Iz 171),i0,(.ref 239),(Iz 176),i0,(.ref 246),(Iz 207),i0,(.ref 253),(Iz 213),i0,(.ref 258),(Iz 229),i0,(.ref 263)]),#[]⟩:Obj),o27,o28,o7,o8,o31,o7,o32,o33,o34,o35,o6,o36,o37,o38,o41,o42,o7,o43,o44,o45,o46,(o47 P),o7,o48,o49,o50,o7,o8,o51,o7,o52,o53,o54,o7,(o55 P),o56,o57,o58,o59,o60,o61,o62,o6,qYc,o80,o7,o82,o85,o7,o8,o86,(o87 P),o88,o89,o90,o91,o92,o93,o7,o94,o7,o95,o85,o7,o8,o98,(o99 P),qYk,qYj,qYi,qYh,qYg,qYf,o7,qYe,o7,qYd,zHd,o7,o8,zHc,(zHb P),zHa,zGz,zGy,zGx,zGw,zGv,zGu,zGt,o7,zGs,o7,zGr,o7,o46,(zMz P),o7,zMy,zMx,zMw,o7,o8,zGq,o7,zMv,zGp,zGo,o7,o8,zGn,o7,zMu,zGm,zGl,o7,o8,zGk,o7,zMt,zGj,zGi,o7,o8,zGh,o7,zMs,zGg,zGf,o7,o8,zGe,o7,zMr,zGd,zGc,o7,o8,zGb,o7,zMq,zGa,zFz,o7,o8,zFy,o7,zMp,zFx,zFw,o7,o8,zFv,o7,zMo,zFu,zFt,o7,o8,zFs,o7,zMn,zFr,zFq,o7,o8,zFp,o7,zMm,zFo,zFn,o7,o8,zFm,o7,zMl,zFl,zFk,o7,o8,zFj,o7,zMk,zFi,zFh,o7,o8,zFg,o7,zMj,zFf,zFe,o7,o8,zFd,o7,zMi,zFc,zFb,zFa,(zEz P),zEy,zEx,zEw,zMh,zMg,o7,o8,(⟨.none,none,(Fz (nth TB 13) qEy qEy),#[]⟩:Obj),zMe,zMd,o7,o8,zMc,o7,(⟨.none,none,(Fz (nth TB 14) qEx qEx),#[]⟩:Obj),zMb,zMa,o7,o8,zLz,o7,(⟨.none,none,(Fz (nth TB 15) qEw qEw),#[]⟩:Obj),zLy,zLx,o7,o8,(⟨.none,none,(Fz (nth TB 16) qEv qEv),#[]⟩:Obj),zLw,zLv,o7,o8,(⟨.none,none,(Fz (nth TB 17) qEu qEu),#[]⟩:Obj),zLu,zLt]
def S20 (w:World) (os:OsState):SharedT:=⟨bt 12 (L20 w.params),265,{},#[GenState.finished,GenState.finished,GenState.finished],⟨0,0,0,0⟩,1098,os⟩
theorem f0:∀ w:World,(λ os=>tw10110043849684766642 tw14364793385576792824 pw_dm0167_02 w 28 (some (.ref 6)) 1 296 (S2 w os) (vU l0 ⟨0,0,0,0⟩))=λ os=>some (.next,(S3 w os),cE,⟨6,0,6,10⟩):=λ w=>by kernel_rfl
theorem p0 (w:World) (os:OsState):segRun treeTable pw_dm0167_02 w 28 (some (.ref 6)) 1 296 (S2 w os).abs (piecesOf l0 env cE ⟨0,0,0,0⟩ [topFrame q])=some (.next,(S3 w os).abs,cE,⟨6,0,6,10⟩):=segRun_of ((by rw [jX,te10110043849684766642,te14364793385576792824]:_=tw10110043849684766642 tw14364793385576792824 pw_dm0167_02 w 28 (some (.ref 6)) 1 296 (S2 w os) (vU l0 ⟨0,0,0,0⟩)).trans (congrFun (f0 w) os))
theorem f1:∀ w:World,(λ os=>tw10110043849684766642 tw14364793385576792824 pw_dm0167_02 w 28 (some (.ref 6)) 1 404 (S3 w os) (vU l1 ⟨6,0,6,10⟩))=λ os=>some (.next,(S4 w os),cE,⟨9,0,12,18⟩):=(byRow2 "special-get-raises" (λ w=>by kernel_rfl) (λ w=>by kernel_rfl))
theorem p1 (w:World) (os:OsState):segRun treeTable pw_dm0167_02 w 28 (some (.ref 6)) 1 404 (S3 w os).abs (piecesOf l1 env cE ⟨6,0,6,10⟩ [topFrame q])=some (.next,(S4 w os).abs,cE,⟨9,0,12,18⟩):=segRun_of ((by rw [jX,te10110043849684766642,te14364793385576792824]:_=tw10110043849684766642 tw14364793385576792824 pw_dm0167_02 w 28 (some (.ref 6)) 1 404 (S3 w os) (vU l1 ⟨6,0,6,10⟩)).trans (congrFun (f1 w) os))
def zF (w:World) (os:OsState):Thread:=match tw10295753902157049106 tw14364793385576792824 pw_dm0167_02 (World.withFollow w "special-get-raises" false) 28 (some (.ref 6)) 1 113 (S4 (World.withFollow w "special-get-raises" false) os) (vU l2 ⟨9,0,12,18⟩) with | some (_,t)=>t | none=>(vU l2 ⟨9,0,12,18⟩)
theorem zRq:∀ w:World,(λ os=>tw10295753902157049106 tw14364793385576792824 pw_dm0167_02 w 28 (some (.ref 6)) 1 113 (S4 w os) (vU l2 ⟨9,0,12,18⟩))=λ os=>some ((S5 w os),zF w os):=(byRow2 "special-get-raises" (λ w=>by kernel_rfl) (λ w=>by kernel_rfl))
theorem zQz (w:World) (os:OsState):segGo treeTable pw_dm0167_02 w 28 (some (.ref 6)) 1 113 (S4 w os).abs (piecesOf l2 env cE ⟨9,0,12,18⟩ [topFrame q])=some ((S5 w os).abs,zF w os):=segGo_of ((by rw [jX,te10295753902157049106,te14364793385576792824]:_=tw10295753902157049106 tw14364793385576792824 pw_dm0167_02 w 28 (some (.ref 6)) 1 113 (S4 w os) (vU l2 ⟨9,0,12,18⟩)).trans (congrFun (zRq w) os))
theorem zRp:∀ w:World,(λ os=>tw10295753902157049106 tw14364793385576792824 pw_dm0167_02 w 28 (some (.ref 6)) 1 640 (S5 w os) (zF w os))=λ os=>some ((S6 w os),zF w os):=(byRow2 "special-get-raises" (λ w=>by kernel_rfl) (λ w=>by kernel_rfl))
theorem zQy (w:World) (os:OsState):segGo treeTable pw_dm0167_02 w 28 (some (.ref 6)) 1 640 (S5 w os).abs (zF w os)=some ((S6 w os).abs,zF w os):=segGo_of ((by rw [te10295753902157049106,te14364793385576792824]:_=tw10295753902157049106 tw14364793385576792824 pw_dm0167_02 w 28 (some (.ref 6)) 1 640 (S5 w os) (zF w os)).trans (congrFun (zRp w) os))
theorem zRo:∀ w:World,(λ os=>tw10295753902157049106 tw14364793385576792824 pw_dm0167_02 w 28 (some (.ref 6)) 1 640 (S6 w os) (zF w os))=λ os=>some ((S7 w os),zF w os):=(byRow2 "special-get-raises" (λ w=>by kernel_rfl) (λ w=>by kernel_rfl))
theorem zQx (w:World) (os:OsState):segGo treeTable pw_dm0167_02 w 28 (some (.ref 6)) 1 640 (S6 w os).abs (zF w os)=some ((S7 w os).abs,zF w os):=segGo_of ((by rw [te10295753902157049106,te14364793385576792824]:_=tw10295753902157049106 tw14364793385576792824 pw_dm0167_02 w 28 (some (.ref 6)) 1 640 (S6 w os) (zF w os)).trans (congrFun (zRo w) os))
theorem zRn:∀ w:World,(λ os=>tw10295753902157049106 tw14364793385576792824 pw_dm0167_02 w 28 (some (.ref 6)) 1 640 (S7 w os) (zF w os))=λ os=>some ((S8 w os),zF w os):=(byRow2 "special-get-raises" (λ w=>by kernel_rfl) (λ w=>by kernel_rfl))
theorem zQw (w:World) (os:OsState):segGo treeTable pw_dm0167_02 w 28 (some (.ref 6)) 1 640 (S7 w os).abs (zF w os)=some ((S8 w os).abs,zF w os):=segGo_of ((by rw [te10295753902157049106,te14364793385576792824]:_=tw10295753902157049106 tw14364793385576792824 pw_dm0167_02 w 28 (some (.ref 6)) 1 640 (S7 w os) (zF w os)).trans (congrFun (zRn w) os))
theorem zRm:∀ w:World,(λ os=>tw10295753902157049106 tw14364793385576792824 pw_dm0167_02 w 28 (some (.ref 6)) 1 640 (S8 w os) (zF w os))=λ os=>some ((S9 w os),zF w os):=(byRow2 "special-get-raises" (λ w=>by kernel_rfl) (λ w=>by kernel_rfl))
theorem zQv (w:World) (os:OsState):segGo treeTable pw_dm0167_02 w 28 (some (.ref 6)) 1 640 (S8 w os).abs (zF w os)=some ((S9 w os).abs,zF w os):=segGo_of ((by rw [te10295753902157049106,te14364793385576792824]:_=tw10295753902157049106 tw14364793385576792824 pw_dm0167_02 w 28 (some (.ref 6)) 1 640 (S8 w os) (zF w os)).trans (congrFun (zRm w) os))
theorem zRl:∀ w:World,(λ os=>tw10295753902157049106 tw14364793385576792824 pw_dm0167_02 w 28 (some (.ref 6)) 1 640 (S9 w os) (zF w os))=λ os=>some ((S10 w os),zF w os):=(byRow2 "special-get-raises" (λ w=>by kernel_rfl) (λ w=>by kernel_rfl))
theorem zQu (w:World) (os:OsState):segGo treeTable pw_dm0167_02 w 28 (some (.ref 6)) 1 640 (S9 w os).abs (zF w os)=some ((S10 w os).abs,zF w os):=segGo_of ((by rw [te10295753902157049106,te14364793385576792824]:_=tw10295753902157049106 tw14364793385576792824 pw_dm0167_02 w 28 (some (.ref 6)) 1 640 (S9 w os) (zF w os)).trans (congrFun (zRl w) os))
theorem zRk:∀ w:World,(λ os=>tw10295753902157049106 tw14364793385576792824 pw_dm0167_02 w 28 (some (.ref 6)) 1 640 (S10 w os) (zF w os))=λ os=>some ((S11 w os),zF w os):=(byRow2 "special-get-raises" (λ w=>by kernel_rfl) (λ w=>by kernel_rfl))
theorem zQt (w:World) (os:OsState):segGo treeTable pw_dm0167_02 w 28 (some (.ref 6)) 1 640 (S10 w os).abs (zF w os)=some ((S11 w os).abs,zF w os):=segGo_of ((by rw [te10295753902157049106,te14364793385576792824]:_=tw10295753902157049106 tw14364793385576792824 pw_dm0167_02 w 28 (some (.ref 6)) 1 640 (S10 w os) (zF w os)).trans (congrFun (zRk w) os))
theorem zRj:∀ w:World,(λ os=>tw10295753902157049106 tw14364793385576792824 pw_dm0167_02 w 28 (some (.ref 6)) 1 640 (S11 w os) (zF w os))=λ os=>some ((S12 w os),zF w os):=(byRow2 "special-get-raises" (λ w=>by kernel_rfl) (λ w=>by kernel_rfl))
theorem zQs (w:World) (os:OsState):segGo treeTable pw_dm0167_02 w 28 (some (.ref 6)) 1 640 (S11 w os).abs (zF w os)=some ((S12 w os).abs,zF w os):=segGo_of ((by rw [te10295753902157049106,te14364793385576792824]:_=tw10295753902157049106 tw14364793385576792824 pw_dm0167_02 w 28 (some (.ref 6)) 1 640 (S11 w os) (zF w os)).trans (congrFun (zRj w) os))
theorem zRi:∀ w:World,(λ os=>tw10295753902157049106 tw14364793385576792824 pw_dm0167_02 w 28 (some (.ref 6)) 1 640 (S12 w os) (zF w os))=λ os=>some ((S13 w os),zF w os):=(byRow2 "special-get-raises" (λ w=>by kernel_rfl) (λ w=>by kernel_rfl))
theorem zQr (w:World) (os:OsState):segGo treeTable pw_dm0167_02 w 28 (some (.ref 6)) 1 640 (S12 w os).abs (zF w os)=some ((S13 w os).abs,zF w os):=segGo_of ((by rw [te10295753902157049106,te14364793385576792824]:_=tw10295753902157049106 tw14364793385576792824 pw_dm0167_02 w 28 (some (.ref 6)) 1 640 (S12 w os) (zF w os)).trans (congrFun (zRi w) os))
theorem zRh:∀ w:World,(λ os=>tw10110043849684766642 tw14364793385576792824 pw_dm0167_02 w 28 (some (.ref 6)) 1 23 (S13 w os) (zF w os))=λ os=>some (.next,(S14 w os),cE,⟨13,0,13,5⟩):=λ w=>by kernel_rfl
theorem zQq (w:World) (os:OsState):segRun treeTable pw_dm0167_02 w 28 (some (.ref 6)) 1 23 (S13 w os).abs (zF w os)=some (.next,(S14 w os).abs,cE,⟨13,0,13,5⟩):=segRun_of ((by rw [te10110043849684766642,te14364793385576792824]:_=tw10110043849684766642 tw14364793385576792824 pw_dm0167_02 w 28 (some (.ref 6)) 1 23 (S13 w os) (zF w os)).trans (congrFun (zRh w) os))
theorem p2 (w:World) (os:OsState):segRun treeTable pw_dm0167_02 w 28 (some (.ref 6)) 1 (113+(640+(640+(640+(640+(640+(640+(640+(640+23))))))))) (S4 w os).abs (piecesOf l2 env cE ⟨9,0,12,18⟩ [topFrame q])=some (.next,(S14 w os).abs,cE,⟨13,0,13,5⟩):=seg_go (zQz w os) (seg_go (zQy w os) (seg_go (zQx w os) (seg_go (zQw w os) (seg_go (zQv w os) (seg_go (zQu w os) (seg_go (zQt w os) (seg_go (zQs w os) (seg_go (zQr w os) (zQq w os)))))))))
theorem f3:∀ w:World,(λ os=>tw10110043849684766642 tw14364793385576792824 pw_dm0167_02 w 28 (some (.ref 6)) 1 367 (S14 w os) (vU l3 ⟨13,0,13,5⟩))=λ os=>some (.next,(S15 w os),cE,⟨14,0,14,49⟩):=(byRow2 "comprehension-iter-twice" (byRow2 "special-get-raises" (λ w=>by kernel_rfl) (λ w=>by kernel_rfl)) (byRow2 "special-get-raises" (λ w=>by kernel_rfl) (λ w=>by kernel_rfl)))
theorem p3 (w:World) (os:OsState):segRun treeTable pw_dm0167_02 w 28 (some (.ref 6)) 1 367 (S14 w os).abs (piecesOf l3 env cE ⟨13,0,13,5⟩ [topFrame q])=some (.next,(S15 w os).abs,cE,⟨14,0,14,49⟩):=segRun_of ((by rw [jX,te10110043849684766642,te14364793385576792824]:_=tw10110043849684766642 tw14364793385576792824 pw_dm0167_02 w 28 (some (.ref 6)) 1 367 (S14 w os) (vU l3 ⟨13,0,13,5⟩)).trans (congrFun (f3 w) os))
theorem f4:∀ w:World,(λ os=>tw10110043849684766642 tw14364793385576792824 pw_dm0167_02 w 28 (some (.ref 6)) 1 367 (S15 w os) (vU l4 ⟨14,0,14,49⟩))=λ os=>some (.next,(S16 w os),cE,⟨15,0,15,49⟩):=(byRow2 "comprehension-iter-twice" (byRow2 "special-get-raises" (λ w=>by kernel_rfl) (λ w=>by kernel_rfl)) (byRow2 "special-get-raises" (λ w=>by kernel_rfl) (λ w=>by kernel_rfl)))
theorem p4 (w:World) (os:OsState):segRun treeTable pw_dm0167_02 w 28 (some (.ref 6)) 1 367 (S15 w os).abs (piecesOf l4 env cE ⟨14,0,14,49⟩ [topFrame q])=some (.next,(S16 w os).abs,cE,⟨15,0,15,49⟩):=segRun_of ((by rw [jX,te10110043849684766642,te14364793385576792824]:_=tw10110043849684766642 tw14364793385576792824 pw_dm0167_02 w 28 (some (.ref 6)) 1 367 (S15 w os) (vU l4 ⟨14,0,14,49⟩)).trans (congrFun (f4 w) os))
theorem f5:∀ w:World,(λ os=>tw10110043849684766642 tw14364793385576792824 pw_dm0167_02 w 28 (some (.ref 6)) 1 522 (S16 w os) (vU l5 ⟨15,0,15,49⟩))=λ os=>some (.next,(S17 w os),cE,⟨16,0,16,52⟩):=(byRow2 "comprehension-iter-twice" (byRow2 "special-get-raises" (λ w=>by kernel_rfl) (λ w=>by kernel_rfl)) (byRow2 "special-get-raises" (λ w=>by kernel_rfl) (λ w=>by kernel_rfl)))
theorem p5 (w:World) (os:OsState):segRun treeTable pw_dm0167_02 w 28 (some (.ref 6)) 1 522 (S16 w os).abs (piecesOf l5 env cE ⟨15,0,15,49⟩ [topFrame q])=some (.next,(S17 w os).abs,cE,⟨16,0,16,52⟩):=segRun_of ((by rw [jX,te10110043849684766642,te14364793385576792824]:_=tw10110043849684766642 tw14364793385576792824 pw_dm0167_02 w 28 (some (.ref 6)) 1 522 (S16 w os) (vU l5 ⟨15,0,15,49⟩)).trans (congrFun (f5 w) os))
theorem f6:∀ w:World,(λ os=>tw10110043849684766642 tw14364793385576792824 pw_dm0167_02 w 28 (some (.ref 6)) 1 654 (S17 w os) (vU l6 ⟨16,0,16,52⟩))=λ os=>some (.next,(S18 w os),cE,⟨17,0,169,16⟩):=λ w=>by kernel_rfl
theorem p6 (w:World) (os:OsState):segRun treeTable pw_dm0167_02 w 28 (some (.ref 6)) 1 654 (S17 w os).abs (piecesOf l6 env cE ⟨16,0,16,52⟩ [topFrame q])=some (.next,(S18 w os).abs,cE,⟨17,0,169,16⟩):=segRun_of ((by rw [jX,te10110043849684766642,te14364793385576792824]:_=tw10110043849684766642 tw14364793385576792824 pw_dm0167_02 w 28 (some (.ref 6)) 1 654 (S17 w os) (vU l6 ⟨16,0,16,52⟩)).trans (congrFun (f6 w) os))
theorem f7:∀ w:World,(λ os=>tw10110043849684766642 tw14364793385576792824 pw_dm0167_02 w 28 (some (.ref 6)) 1 155 (S18 w os) (vU l7 ⟨17,0,169,16⟩))=λ os=>some (.next,(S19 w os),cE,⟨229,0,251,81⟩):=λ w=>by kernel_rfl
theorem p7 (w:World) (os:OsState):segRun treeTable pw_dm0167_02 w 28 (some (.ref 6)) 1 155 (S18 w os).abs (piecesOf l7 env cE ⟨17,0,169,16⟩ [topFrame q])=some (.next,(S19 w os).abs,cE,⟨229,0,251,81⟩):=segRun_of ((by rw [jX,te10110043849684766642,te14364793385576792824]:_=tw10110043849684766642 tw14364793385576792824 pw_dm0167_02 w 28 (some (.ref 6)) 1 155 (S18 w os) (vU l7 ⟨17,0,169,16⟩)).trans (congrFun (f7 w) os))
theorem fpre:∀ w:World,(λ os=>tw15667345088766844465 tw14364793385576792824 pw_dm0167_02 w 28 (some (.ref 6)) 12 (S0 w os).abs (topStub pw_dm0167_02))=λ os=>some ((S1 w os).abs,⟨tw11892475500146522536 tw14364793385576792824 cE,cE,⟨0,0,0,0⟩,[topFrame q]⟩):=λ w=>by kernel_rfl
theorem fblock:∀ w:World,(λ os=>tw14374325043358763698 tw14364793385576792824 pw_dm0167_02 w 28 (some (.ref 6)) 1 1 (S1 w os).abs (⟨PySem.Sem.wrap (λ _=>doneF .next) deadEnd id id (tw1066825118222455980 bE env),cE,⟨0,0,0,0⟩,[topFrame q]⟩))=λ os=>some (.next,(S2 w os).abs,cE,⟨0,0,0,0⟩):=λ w=>by kernel_rfl
theorem ffin:∀ w:World,(λ os=>tw14082659384304107361 tw14364793385576792824 pw_dm0167_02 w 28 (some (.ref 6)) 2 (S19 w os).abs (⟨doneF .next,cE,⟨229,0,251,81⟩,[topFrame q]⟩))=λ os=>some ((S20 w os).abs):=λ w=>by kernel_rfl
def K (P:Params):Frag:=[(2,(o2 P)),(3,(zMf P)),(32,o7),(34,o31),(35,o7),(37,o33),(38,o34),(42,o37),(43,o38),(48,o44),(49,o45),(56,o7),(58,o51),(59,o7),(61,o53),(62,o54),(63,o7),(64,(o55 P)),(65,o56),(66,o57),(67,o58),(72,o6),(73,qYc),(131,o7),(133,zGq),(134,o7),(136,zGp),(137,zGo),(138,o7),(140,zGn),(141,o7),(143,zGm),(144,zGl),(145,o7),(147,zGk),(148,o7),(150,zGj),(151,zGi),(152,o7),(154,zGh),(155,o7),(157,zGg),(158,zGf),(159,o7),(161,zGe),(162,o7),(164,zGd),(165,zGc),(166,o7),(168,zGb),(169,o7),(171,zGa),(172,zFz),(173,o7),(175,zFy),(176,o7),(178,zFx),(179,zFw),(180,o7),(182,zFv),(183,o7),(185,zFu),(186,zFt),(187,o7),(189,zFs),(190,o7),(192,zFr),(193,zFq),(194,o7),(196,zFp),(197,o7),(199,zFo),(200,zFn),(201,o7),(203,zFm),(204,o7),(206,zFl),(207,zFk),(208,o7),(210,zFj),(211,o7),(213,zFi),(214,zFh),(215,o7),(217,zFg),(218,o7),(220,zFf),(221,zFe),(222,o7),(224,zFd),(225,o7),(227,zFc),(228,zFb),(229,zFa),(230,(zEz P)),(231,zEy),(232,zEx),(233,zEw),(236,o7),(239,zMe),(240,zMd),(241,o7),(243,zMc),(244,o7),(246,zMb),(247,zMa),(248,o7),(250,zLz),(251,o7),(253,zLy),(254,zLx),(255,o7),(258,zLw),(259,zLv),(260,o7),(263,zLu),(264,zLt)]
noncomputable def qv:Program:=view pw_dm0167_02 [0,1,3,4,5,6,7,11,13,14,15,16,17]
def loose:List Str:=[qDc,qFd,qFc,qFb,qFa,qEz,qHl,qNj]
def lv:List (Str×WData):=[(qFd,WData.int 0),(qFc,WData.int 1),(qFb,WData.int 2),(qFa,WData.int 3),(qEz,WData.int 4)]
noncomputable def kAs:List Addr:=[2,3,32,34,35,37,38,42,43,48,49,56,58,59,61,62,63,64,65,66,67,72,73,131,133,134,136,137,138,140,141,143,144,145,147,148,150,151,152,154,155,157,158,159,161,162,164,165,166,168,169,171,172,173,175,176,178,179,180,182,183,185,186,187,189,190,192,193,194,196,197,199,200,201,203,204,206,207,208,210,211,213,214,215,217,218,220,221,222,224,225,227,228,229,230,231,232,233,236,239,240,241,243,244,246,247,248,250,251,253,254,255,258,259,260,263,264]
theorem ppre (w:World) (os:OsState):topGo treeTable pw_dm0167_02 w 28 (some (.ref 6)) 12 (S0 w os).abs (topStub pw_dm0167_02)=some ((S1 w os).abs,⟨denote treeTable (.body bE env),cE,⟨0,0,0,0⟩,[topFrame q]⟩):=by
 rw [te15667345088766844465,te11892475500146522536,te14364793385576792824]
 exact congrFun (fpre w) os
theorem pblock (w:World) (os:OsState):segRun treeTable pw_dm0167_02 w 28 (some (.ref 6)) 1 1 (S1 w os).abs (blockOf bE env cE ⟨0,0,0,0⟩ [topFrame q])=some (.next,(S2 w os).abs,cE,⟨0,0,0,0⟩):=by
 show segRun treeTable pw_dm0167_02 w 28 (some (.ref 6)) 1 1 (S1 w os).abs (⟨(blockStart bE env).wrap (λ _=>doneF .next) deadEnd id id,cE,⟨0,0,0,0⟩,[topFrame q]⟩)=_
 rw [te14374325043358763698,te1066825118222455980,te14364793385576792824]
 exact congrFun (fblock w) os
theorem pfin (w:World) (os:OsState):topRun treeTable pw_dm0167_02 w 28 (some (.ref 6)) 2 (S19 w os).abs ⟨doneF .next,cE,⟨229,0,251,81⟩,[topFrame q]⟩=some (S20 w os).abs:=by
 rw [te14082659384304107361,te14364793385576792824]
 exact congrFun (ffin w) os
theorem run (w:World) (os:OsState):topRun treeTable pw_dm0167_02 w 28 (some (.ref 6)) (12+(1+(296+(404+((113+(640+(640+(640+(640+(640+(640+(640+(640+23)))))))))+(367+(367+(522+(654+(155+2)))))))))) (S0 w os).abs (topStub pw_dm0167_02)=some (S20 w os).abs:=by
 have T:=piece_nil (env:=env) (pfin w os)
 have D:=piece_app (rest:=([]:List Stmt)) (p7 w os) T
 have J:=piece_app (rest:=(l7++([]:List Stmt))) (p6 w os) D
 have u:=piece_app (rest:=(l6++(l7++([]:List Stmt)))) (p5 w os) J
 have U:=piece_app (rest:=(l5++(l6++(l7++([]:List Stmt))))) (p4 w os) u
 have L:=piece_app (rest:=(l4++(l5++(l6++(l7++([]:List Stmt)))))) (p3 w os) U
 have S:=piece_app (rest:=(l3++(l4++(l5++(l6++(l7++([]:List Stmt))))))) (p2 w os) L
 have O:=piece_app (rest:=(l2++(l3++(l4++(l5++(l6++(l7++([]:List Stmt)))))))) (p1 w os) S
 have B:=piece_app (rest:=(l1++(l2++(l3++(l4++(l5++(l6++(l7++([]:List Stmt))))))))) (p0 w os) O
 exact go_top (ppre w os) (piece_block (pblock w os) B)
noncomputable def H0 (P:Params):Heap:=absHeap (bt 12 (L0 P)) 28 {}
def HE (P:Params):Heap:=absHeap (bt 12 ([(o0 P),(o1 P),(o2 P),(o3 P),o4,o5,o6,o7,o8,o9,o10,(zRa P),o12,(o13 P),o14,o7,o15,o16,o17,o18,(o19 P),(o20 P),o21,o22,o23,o24,o25,o26])) 28 {}
def H1 (P:Params):Heap:=absHeap (bt 12 (L20 P)) 265 {}
theorem fopen:∀ w:World,tw10274390034422433532 tw14364793385576792824 (opening pw_dm0167_02) w 799 (tw1435165496053646825 (opening pw_dm0167_02)).1 (tw1435165496053646825 (opening pw_dm0167_02)).2=some ⟨HE w.params,#[],⟨0,0,0,0⟩,276,(tw1435165496053646825 (opening pw_dm0167_02)).1.os⟩:=λ w=>by kernel_rfl
theorem ffence:∀ w:World,(λ os=>(tw14289696077712309145 pw_dm0167_02 ⟨HE w.params,#[],⟨0,0,0,0⟩,276,os⟩).map (λ s=>(s.heap,s.gens,s.drawn,s.toks)))=λ _=>some (H0 w.params,#[],⟨0,0,0,0⟩,276):=λ w=>by kernel_rfl
theorem popen:∀ w:World,(fencedOpening treeTable pw_dm0167_02 w 40000).map (λ s=>(s.heap,s.gens,s.drawn,s.toks))=some (H0 w.params,#[],⟨0,0,0,0⟩,276) :=
 open_cut (M:=799) (He:=HE) (ge:=#[]) (de:=⟨0,0,0,0⟩) (ke:=276) (λ w=>by
  rw [te10274390034422433532,te1435165496053646825,te14364793385576792824]
  exact fopen w) rfl (λ w=>by
  rw [te14289696077712309145]
  exact ffence w)
theorem psize:∀ w:World,((H0 w.params).isNs mainGlobals && ((#[]:Array GenState)).size == 0,(H0 w.params).objs.size,(H0 w.params).nsMap mainGlobals "__annotations__")=(true,28,((some (.ref 6)):Option Value)):=λ w=>by
 rw [te8920871248978507458]
 kernel_rfl
def Xt (s:Shared):Bool:=xlAt qv lv s && recOk (RowW.records (OpenRow.toRowW PySem.Challenge.rw_dm0167_02.row)) s
noncomputable def Yf (s:Shared):List (Option Obj):=kAs.map s.heap.get?
def Ya (w:World):List (Option Obj):=(K w.params).map λ p=>some p.2
theorem zPn (w:World) (os:OsState):(staticsOk (importedModules pw_dm0167_02.main.body) (H0 w.params) (H1 w.params) && namesBound pw_dm0167_02 (H1 w.params) && gensDone ⟨H1 w.params,#[GenState.finished,GenState.finished,GenState.finished],⟨0,0,0,0⟩,1098,os⟩ && laidKept (H0 w.params) (H1 w.params))=true:=by
 rw [te5923862056798008813]
 kernel_rfl
theorem zPm (w:World) (os:OsState):openSeen qv loose (importedModules pw_dm0167_02.main.body) Xt false ⟨H1 w.params,#[GenState.finished,GenState.finished,GenState.finished],⟨0,0,0,0⟩,1098,os⟩=openGood qv loose:=by
 rw [te4187177175401517315,te5923862056798008813]
 kernel_rfl
theorem zPl (w:World) (os:OsState):Yf ⟨H1 w.params,#[GenState.finished,GenState.finished,GenState.finished],⟨0,0,0,0⟩,1098,os⟩=Ya w:=by kernel_rfl
theorem left:LeftO pw_dm0167_02 qv loose Xt Yf Ya 40000 false:=LeftO.of_pieces (H₀:=H0) (H₁:=H1) (m₀:=28) (ann:=(some (.ref 6))) popen psize run (by decide) (λ w=>funext λ os=>looks_pair (zPn w os) (looks_pair (zPm w os) (zPl w os)))
end MineTop
namespace MineTop
open PySem PySem.W PyProof.Rows PySem.Calls
def qPj (c:ClaimW) (cl:Str->Option Addr) (mean:ExcName->Option Value) (args:List WData) (a8:Shared) (r:Result) (s':Shared):Prop:=GoodWG c cl mean args a8 r s'/\s'.gens = #[]
theorem qGo {c:ClaimW} {u a8 s':Shared} {args:List WData} {vs:List Value} {as:List Addr} {r:Result} (hs:c.same=none) (hw:c.within=[]) (hi:∀ a b,c.ident a b=true)
  (L:ReadsAllW c.records (classAt u.heap) a8.heap vs args as) (D:∀ a∈as,∃ o,a8.heap.get? a=some o) (T:a8.os=u.os)
  (g:qPj c (classAt u.heap) (ExcName.means u.heap) args { a8 with gens:=#[] } r s'):c.Ends u args vs a8 r s'/\s'.os=u.os/\s'.gens = #[]:=by
 obtain ⟨⟨V,K,h2,_⟩,h3⟩:=g
 refine ⟨?_,h2.trans T,h3⟩
 rcases V with ⟨v,d,S,rfl,n,rd,p,B⟩ | ⟨e,O,cls,rfl,e1,e2,e3,e4⟩
 ·refine .inl ⟨v,rfl,n,⟨d,args,S,as,rd,L.keepsK λ b o q z=>K.get_of_cls q z,p,λ q=>⟨(B q).1,(B q).2,λ a ha U=>?_⟩,λ _ _=>hi _ _⟩,λ i q=>(by rw [hs] at q; cases q),λ b o q _ _=>K.old b o q,λ i q=>(by rw [hw] at q; cases q)⟩
  obtain ⟨o,z⟩:=D a U
  have J:a8.heap.get? a=none:=(B q).2 a ha
  rw [z] at J; cases J
 ·exact .inr ⟨e,O,cls,rfl,e1,e2,e3,e4,λ b o q=>K.old b o q⟩
abbrev zQj (q:Program) (loose:List Str) (XP:(Str->Option Value)->Heap->Prop) (YP:World->Heap->Prop) (r:RowW) (d:DefRec) (kwd:List (Str×Expr)):Prop :=
 ∀ (w:World) (aO a8:Shared) (mg mb:Str->Option Value),Ground q loose r.records XP w aO mg mb a8.heap->YP w a8.heap->∀ (a:Addr) (o:Obj) (pm cd doc dV kV:Value),a8.heap.get? a=some o ->
  o.data=.func { docDef d.name d.params d.body d.scope pm cd doc with defaults:=dV,kwdefaults:=kV }->a8.heap.CodeRec cd d.name->Dflts mg a8.heap d.params kwd dV kV->mg d.name=some (.ref a)->a8.gens = #[] ->
  ∀ (args:List WData) (vals:List Value) (as:List Addr),r.claim.pre args=true->WData.layableAll args=true->ReadsAllW r.records (classAt aO.heap) a8.heap vals args as->WellAll w.params a8.heap vals args->(∀ a∈as,(a == sysModules)=false) ->
   wpAny (model r.prog w) callerA (PySem.call (.ref a) vals) (λ v s'=>qPj r.claim (classAt aO.heap) (ExcName.means aO.heap) args a8 (.ok (.ret v)) s')
    (λ e s'=>qPj r.claim (classAt aO.heap) (ExcName.means aO.heap) args a8 (.error e) s') a8
theorem zHw {r:OpenRow} {q:Program} {loose:List Str} {Xt:Shared->Bool} {XP:(Str->Option Value)->Heap->Prop} {α:Type} {Yf:Shared->α} {Ya:World->α} {YP:World->Heap->Prop} {d:DefRec} {S:List (Str×Expr)} {N:Nat}
  (left:LeftO r.prog q loose Xt Yf Ya N false) (hY:∀ w s,Yf s=Ya w->YP w s.heap) (ad:∀ w h h',YP w h->(∀ b o,h.get? b=some o->h'.get? b=some o)->YP w h')
  (hX:∀ s,Xt s=true->XP (s.heap.nsMap mainGlobals) s.heap) (ai:∀ mg h h',XP mg h->(∀ b o,h.get? b=some o->h'.get? b=some o)->XP mg h')
  (J:defOf q r.name=some (d,S)) (hp:r.prog.theDef r.name=some (d.params,d.body,d.scope)) (hk:kwWritten? d.params.kwonlyargs d.params.kw_defaults=some S) (ag:∀ s,Xt s=true->RecFacts r.records s.heap) (a2:(!r.writes || r.records.isEmpty)=true)
  (k1:r.wellSaid=true) (ok:(chainsOk q && opensWell r.prog && (frees r.toRowW && r.within.isEmpty))=true) (hb:r.prog.bare) (hw:r.toRowW.promised)
  (a7:zQj q loose XP YP r.toRowW d S):r.Holds:=by
 refine Classical.byContradiction λ L=>?_
 obtain ⟨ah,ak⟩:=Bool.and_eq_true_iff.mp ok
 obtain ⟨a4,a9⟩:=Bool.and_eq_true_iff.mp ah
 obtain ⟨aj,ae⟩:=Bool.and_eq_true_iff.mp ak
 obtain ⟨f1,f2,f3,f4,f5⟩:=frees_parts aj
 refine L ?_
 refine ⟨k1,hw,⟨hb,a9,by show r.toRowW.makers.map _=[]; rw [f5]; rfl⟩,hw.witness,λ w=>⟨(left.behind hX a4 w).1,λ s' aa=>?_⟩⟩
 refine Classical.byContradiction λ L=>?_
 obtain ⟨aO,g1,g2,s,g3,g4,g5,g6,G0,y⟩:=(left.behind (XP:=λ mg h=>XP mg h/\RecFacts r.records h) (λ s hs=>⟨hX s hs,ag s hs⟩) a4 w).2 s' aa
 refine L ?_
 have G:Ground q loose [] XP w s (s.heap.nsMap mainGlobals) (s.heap.nsMap builtinsNs) s.heap:=⟨G0.T,G0.B,G0.D,G0.TE,G0.TD,G0.W,G0.X.1,G0.cls,G0.has,G0.apart,G0.once,G0.K⟩
 have RF:=G0.X.2
 have GR:Ground q loose r.toRowW.records XP w s _ _ s.heap:=RF.ground G
 have hg:leftWithCleanup s.gens=false:=by simpa using g5
 refine ⟨aO,g1,g2,s,g3,λ n hn=>?_,RF.1,RF.2.1,?_⟩
 ·obtain rfl:n=r.name:=by split at hn <;> simp_all
  exact pinned_of_view g6 G J hp hk
 refine ClaimW.callFrom_of_specN (c:=r.toRowW.claim) g4 hg λ args O Y ord V=>?_
 refine Classical.byContradiction λ L=>?_
 obtain ⟨⟨vs,a8⟩,u⟩:=Option.isSome_iff_exists.mp (layAllW_isSome (P:=w.params) (ord:=ord) GR.has args r.toRowW.args s (pre_splitW O).1)
 have kp:=layAllW_keeps _ _ _ u
 have al:=layAllW_rest _ _ _ u
 obtain ⟨as,U,am,a0⟩:=reads_layAllW V _ _ _ u Y a8.heap (λ _ _ e=>e)
 have G1:=GR.keeps ai kp
 obtain ⟨a,o,pm,cd,doc,dV,kV,h1,h2,h3,h4,h5⟩:=G1.fn J
 refine L ?_
 have run:=a7 w s { a8 with gens:=#[] } _ _ G1 (ad _ _ _ (hY w s y) kp) a o pm cd doc dV kV h2 h3 h4 h5 (defOf_name J ▸ h1) rfl args vs as O Y U (well_layAllW V args s _ u _ λ _ _ e=>e)
  (λ a ha=>beq_eq_false_iff_ne.mpr λ e=>by have:=(am.2.2 a ha).1; subst e; exact absurd GR.low (Nat.not_lt.mpr this))
 have hi:=ident_freeW f2 f3 f4
 have a3:r.toRowW.claim.within=[]:=List.isEmpty_iff.mp ae
 exact ⟨vs,a8,u,wpAny_bind (wpAny_nsGet G1.T.g (by rw [h1]; exact wpAny_bind (wpAny_mono run (λ v s' g=>wpAny_pure ⟨_,rfl,have z:=qGo (c:=r.toRowW.claim) f1 a3 hi U a0 al.2.2.1 g; ⟨z.1,z.2.1,z.2.2,λ q=>⟨namesKept_of g3 g6 _ kp g.1.2.1.old,noTable a2 q⟩⟩⟩) λ e s' g=>have z:=qGo (c:=r.toRowW.claim) f1 a3 hi U a0 al.2.2.1 g; ⟨z.1,z.2.1,z.2.2,λ q=>⟨namesKept_of g3 g6 _ kp g.1.2.1.old,noTable a2 q⟩⟩)))⟩
section
variable {M:Model} {A:Around} {s a8:Shared} {c:ClaimW} {cl:Str->Option Addr} {mean:ExcName->Option Value} {args:List WData}
theorem zOa {f:Value} {pos:List Value} (h:codeAny M A (.call f ⟨pos,[]⟩) (qPj c cl mean args a8) s) :
  wpAny M A (PySem.call f pos []) (λ v s'=>qPj c cl mean args a8 (.ok (.ret v)) s') (λ e s'=>qPj c cl mean args a8 (.error e) s') s :=
 wpAny_call (codeAny_mono h λ u s' g=>by rcases g.1.1 with ⟨v,_,_,rfl,_⟩ | ⟨e,_,_,rfl,_⟩ <;> exact g)
theorem zPg {cd:Code} {k P:Addr} (J:TabsAt [(k,P)] a8.heap) (hr:∀ a x,c.raises a x=false)
  (h:codeAny M A cd (λ r s'=>GoodW c cl mean args { a8 with heap:=ghostOf a8.heap [(k,P)] } r s'/\GrownAll [(k,P)] s'.heap) s):codeAny M A cd (qPj c cl mean args a8) s:=by
 refine codeAny_mono h λ r s' ⟨⟨V,h2,h3,h4⟩,h5,_⟩=>⟨⟨?_,⟨λ b o e=>?_,λ b o e=>?_⟩,h3,.of_eq h4⟩,h4⟩
 ·obtain ⟨ps,B⟩:=h5
  rcases V with ⟨v,d,as,U,T,L,D,O⟩ | ⟨e,X,x,_,_,_,D,_⟩
  ·refine .inl ⟨v,d,as,U,T,L,D,λ q=>⟨(O q).1,λ a ha=>?_⟩⟩
   cases S:a8.heap.get? a with
   | none=>rfl
   | some o =>
    by_cases u:a=P
    ·subst u; exact absurd ha (readsW_apart B rfl L)
    ·have e3:(ghostOf a8.heap [(k,P)]).get? a=none:=(O q).2 a ha
     rw [ghost_ne (tabs:=[(k,P)]) S (λ z=>u (List.mem_singleton.mp z))] at e3; cases e3
  ·rw [hr] at D; cases D
 ·by_cases u:b=P
  ·subst u
   obtain ⟨ps,B⟩:=h5
   have e2:=(J _ (.head _)).2
   rw [e] at e2
   cases e2
   exact .inr (.inl ⟨((J _ (.head _)).1.tab (J _ (.head _)).2).isCodeTable,rfl,#[],ps,rfl,by rw [Array.empty_append]; exact B⟩)
  ·exact .inl (h2 b o (ghost_ne (tabs:=[(k,P)]) e λ z=>u (List.mem_singleton.mp z)))
 ·by_cases u:b=P
  ·subst u; obtain ⟨ps,B⟩:=h5; exact ⟨_,B⟩
  ·exact ⟨o,h2 b o (ghost_ne (tabs:=[(k,P)]) e λ z=>u (List.mem_singleton.mp z))⟩
end
end MineTop
namespace MineTop
open PySem PySem.W PyProof.Rows
theorem kE:∀ P:Params,kAs=(K P).map (·.1):=λ _=>by kernel_rfl
theorem hwit:(OpenRow.toRowW PySem.Challenge.rw_dm0167_02.row).promised:=by w_witness2
def hd:=λ walk=>zPs (zHw (r:=PySem.Challenge.rw_dm0167_02.row) (q:=qv) (loose:=loose) (Xt:=Xt) (XP:=XL qv lv) (Yf:=Hook.obs (kHook K kAs kE)) (Ya:=Hook.val (kHook K kAs kE)) (YP:=Hook.says (kHook K kAs kE)) (N:=40000) left (Hook.of (kHook K kAs kE)) (Hook.keeps (kHook K kAs kE)) (λ s e=>xl_of s (Bool.and_eq_true_iff.mp e).1) XL.keeps (by rfl) (by rfl) (by rfl) (λ s e=>recFacts_of (Bool.and_eq_true_iff.mp e).2) (by rfl) (by decide +kernel) (by decide +kernel) ⟨rfl,rfl,rfl,rfl,rfl,by decide +kernel⟩ hwit walk)
end MineTop
open _root_ renaming if_pos→c7,if_neg→d0,absurd→f8,congrArg→g8,decide_eq_true→h8,decide_eq_true_eq→j4,beq_iff_eq→j8,of_decide_eq_true→m5,decide_eq_false→r5,of_decide_eq_false→v8,decide_eq_false_iff_not→eV,bne_iff_ne→iP,beq_self_eq_true→iQ,ne_true_of_eq_false→lH,if_false→oH,if_true→pO
open PySem renaming wpAny_bind→d3,Shared→d6,wpAny_pure→d9,sizeLine→g0,Value→g9,wpAny_mono→j0,wpAny_holding→l8,Around→n6,builtinLookup_eq_fast→n9,mainGlobals→r8,NameKind→s9,wpAny_assign_Name→t8,wpAny_newObj_type→v2,wpAny_of_eq→v6,typeIs_str→aT,builtinsNs→aY,Params→bA,typeLookup_type→bI,DictEntry→dH,wpAny_standAt→eE,isSubtype_type→eR,entryFor_of_tree→eS,wpAny_call_entry→eT,wpAny_load→fA,Builtin→fH,wpAny_storeName_local→fL,wpAny_Assign_Name→fN,wpAny_loadName_local→fV,Program→gA,recursionLimit→iE,wpAny_isInstance→iM,wpAny_call→iN,codeAny_call_builtin→iY,wpAny_mkInt→mF,getMethod_builtin→mK,Heap→mS,wpAny_execs_cons→mT,wpAny_items_cons→mV,Keyword→nJ,call_meets→nN,codeAny_builtin→nP,wpAny_ite_false→nS,wpAny_seqItems→oE,wpAny_rule→pE,wpAny_Name→pG
open Nat renaming le_trans→d5,le_refl→d7,add_le_add_left→i7,le_succ_of_le→j6,lt_succ_of_lt→k9,add_right_comm→l9,lt_of_lt_of_le→m0,lt_of_le_of_lt→m1,lt_succ_of_le→m2,add_le_add_right→m6,zero_le→m9,le_of_lt→n1,le_add_right→n4,lt_succ_self→n5,le_add_left→n8,add_sub_of_le→r6,ne_of_lt→r9,add_assoc→t6,add_comm→u3,succ_le_succ→u9,le_of_eq→v1,add_sub_cancel_left→v3,le_of_succ_le_succ→v5,ne_of_gt→v9,lt_of_add_right_lt→w8,le_of_lt_succ→bG,pos_of_ne_zero→bR,lt_of_le_of_ne→cC,lt_add_of_pos_right→dA,le_of_succ_le→dD,mul_le_mul_left→dG,sub_eq_zero_of_le→dL,le_sub_of_add_le→dQ,add_le_add→dR,min_eq_left→dT,add_sub_cancel'→dX,le_succ→dY,min_eq_right→eM,le_of_not_le→eW,sub_add_cancel→eY,le_sub_iff_add_le'→eZ,le_antisymm→fD,add_sub_add_right→fJ,lt_of_sub_eq_succ→fK,le_sub_one_of_lt→fO,mul_le_mul_right→fP,not_succ_le_zero→fW,le_of_not_lt→gB,succ_pred_eq_of_pos→gT,lt_irrefl→gV,min_le_left→gW,add_zero→iA,min_le_right→iB,le_add_left_of_le→iG,sub_ne_zero_of_lt→iH,zero_add→iX,not_lt_zero→lE,succ_pos→lJ,sub_le→lO,add_sub_cancel→lP,sub_self→lR,one_mul→mC,sub_add_comm→mQ,lt_or_ge→nB,zero_lt_of_ne_zero→nM,le_sub_of_add_le'→nW,succ→oB,le_total→pI,succ_sub→pP,sub_zero→pQ
open Bool renaming and_eq_true→d8,not_eq_true'→dO,false_eq_true→gO,false_ne_true→gR,and_false→iD,and_true→iS,or_eq_true→lS,true_and→pB
open List renaming length_append→g7,lookup→i8,length_map→k0,length_singleton→k8,getD_eq_getElem?_getD→m3,range'→m4,length_cons→m7,getElem?_eq_getElem→n3,size_toArray→n7,take_of_length_le→t7,getElem?_append_left→t9,length_drop→u0,append_assoc→u6,filter_cons_of_pos→u7,getLast?_concat→u8,take_append_drop→v0,map_cons→v4,mem_append_right→w7,append_nil→cN,filter_cons_of_neg→cO,take_succ_cons→dE,getLast?_eq_getElem?→dK,length_replicate→dM,length_take→dS,eq_nil_of_length_eq_zero→dU,getLast?_eq_some_getLast→dW,cons_ne_nil→eA,getElem?_drop→eB,map_append→eH,getElem?_append_right→eJ,mem_of_mem_drop→eK,drop_eq_nil_of_le→eL,getElem?_eq_none→eQ,not_mem_nil→eX,count_cons_self→fE,concat_eq_append→fM,all_eq_true→fQ,dropWhile_cons→fR,mem_of_getLast?→fX,contains_eq_mem→fY,drop_eq_getElem_cons→gE,replicate_succ→gK,takeWhile_cons→gL,filter_append→gM,eq_of_mem_replicate→gQ,drop_drop→gU,getElem?_map→hA,map_map→hK,takeWhile_append_dropWhile→iF,getElem?_toArray→iJ,eq_nil_or_concat→iK,length_filter_le→iL,zip_cons_cons→iR,cons_append→iV,range'_succ→iW,mem_of_mem_take→iZ,drop_append_of_le_length→lA,mem_of_getElem?→lB,getLast?_append→lC,range_eq_range'→lD,dropLast_concat_getLast→lG,filterMap_cons→lI,take_sublist→lK,drop_zero→lM,forIn_cons→lQ,range→lT,getLast?_cons→lZ,isEmpty_eq_false_iff→mB,suffix_refl→mD,reverse_cons→mH,drop_sublist→mI,count_append→mL,filterMap_cons_some→mM,contains_eq_any_beq→mP,drop_suffix→mW,pairwise_lt_range'→mX,getLast?_cons_cons→mY,getElem_mem→mZ,nil_append→nE,of_mem_zip→nF,drop_of_length_le→nK,filterMap_eq_map'→nO,foldl_cons→nR,mem_append→nU,length_nil→nV,dropWhile_suffix→nY,contains_iff_mem→oA,mapM_cons→oJ,filter→oK,nodup_nil→oR,take_zero→oT,replicate_succ'→oU,drop_left→oV,mem_append_left→oW,take_left→oX,drop_nil→oZ,map_drop→pA,map_take→pC,any_cons→pD,all_cons→pK,mem_cons→pL,toArray→pM
open Array renaming length_toList→h9,eq_empty_of_size_eq_zero→w9,getElem?_toList→dI,getElem?_eq_getElem→gH,toList_append→gN,size_append→gX,getD_eq_getD_getElem?→lL,getElem?_eq_none_iff→lV,toList_push→mE,getElem_extract→nZ,toArray_toList→oO
open PySem.Unicode renaming isAlnum→i6
open List.cons renaming inj→j5,injEq→lF
open Option.some renaming inj→j7,injEq→dF
open PySem.Heap renaming get?_push_of_some→j9,get?_push_size→r4,get?_none_of_le→dB,SameBut→gC,lt_size→gD,size_push→iC,get?_update_self→iI,get?_update_other→nL,ExtBut→pW
open PySem.Builtin.Range renaming rangeSize→m8
open PySem.Sre.M renaming runFor→r7,word→fT,resume→oG,afterRun→pF,exec→pR
open PySem.PyData renaming strOk→t5,eqv→v7,int→gS,list→gZ,eqvAll→iU,depthAll→nQ,keyHash→oM
open PySem.Txt renaming replace→u2,lstripChars→dJ,split→lN,join→lX,contains→nH,isalnum→oQ,find3→pU,count→pV
open Int renaming natCast_nonneg→bQ,toNat_natCast→dP,add_comm→pJ
open PySem.Builtin.Str renaming strSliceIndices→dZ,tooLong→eP,occurrences→eU,lastOccurrence→fS,partsBetween→mO,tableLookup→mU,strKind→oY
open LawfulBEq renaming eq_of_beq→eF
open Ne renaming symm→eO
open PySem.Str renaming ofString→fB,join→oS
open PySem.F renaming slot_str_split→fC,args_str_split_2→gP,entry_str_split→gY,type_list_append→lY,entry_list_append→mA,slot_list_append→mN,slot_str_rfind→nG,slot_str_join→nX
open ForInStep renaming yield→fF
open PySem.Sre renaming Frame→fG,Outcome→mG
open Option renaming map→fU,map_some→mR
open Nat.succ renaming inj→fZ
open Classical renaming byContradiction→gF
open Decidable renaming byContradiction→gG
open PySem.Manifest renaming signature?→gI
open PySem.Heap.SameBut renaming update→gJ
open PySem.Expr renaming Name→iO,Constant→iT
open PySem.Calls renaming Constant_str→lU
open PySem.GM renaming noRef→lW
open PySem.Value renaming isInt→mJ,ref→pS
open Eq renaming symm→nA
open PySem.StrLaws renaming partsBetween_eq→nT
open PySem.W renaming listOf→oP
open Nat.ToInt renaming of_diseq→pH,of_le→pX
open PyProof.Rows renaming tail_any→pN
open PySem.DictEntry renaming refKey→pT
theorem Mine.Lake.n_la {a b:Nat}:a<=b+(a-b):=Nat.sub_le_iff_le_add'.mp (Nat.le_refl _)
theorem Mine.Lake.n_sb {a b:Nat} (h:a < b):b-a=b-(a+1)+1:=(gT (Nat.sub_pos_of_lt h)).symm
theorem Mine.Lake.n_rl {a b c:Nat} (h:a<=b/\b < a+(c-a)):b < c:=(pI a c).elim (λ q=>r6 q▸h.2) λ q=>f8 h.2 (Nat.not_lt.mpr (d5 (v1 (g8 (a+·) (dL q))) h.1))
theorem Mine.Lake.n_mx {a b:Nat}:(max 0 (min (-(b:Int)+a) a)).toNat=a-b:=by lia
theorem Mine.Lake.n_a0 {a:Nat}:¬2*a+3=0:=v9 (n8 (oB 0) (2*a+2))
theorem Mine.Lake.n_a1 {a:Nat}:2+(1+a)=1+(1+a)+1:=nA (l9 1 (1+a) 1)
theorem Mine.Lake.n_a2 {a b:Nat} (u:a<=b):¬(0:Int) > (b:Int)-(a:Int):=Int.not_lt.mpr (Int.sub_nonneg.mpr (Int.ofNat_le.mpr u))
theorem Mine.Lake.n_a3 {a b:Nat} (u:a < 4294967295):a-b<=4294967295:=d5 (lO _ _) (n1 u)
theorem Mine.Lake.n_a4 {a b:Nat} (u:a+1<=b):b-(a+1)+a=b-1:=by rw [u3 a 1,Nat.sub_add_eq]; exact eY (fO u)
theorem Mine.Lake.n_a5 {a:Nat}:¬a+1=0:=v9 (n8 (oB 0) a)
theorem Mine.Lake.n_a6 {a b c:Nat} (u:a<=b-c):a+1<=b+1:=u9 (d5 u (lO _ _))
theorem Mine.Lake.n_a7 {a b:Nat} (u:¬a < b+3):b+(a-2-b)=a-2:=r6 (dQ (dD (Nat.not_lt.mp u)))
theorem Mine.Lake.n_a8 {a b:Nat}:a-2-b+1<=a+1:=u9 (d5 (lO _ _) (lO _ _))
theorem Mine.Lake.n_a9 {a b:Nat} (u:a<=b) (B:b=16777216):a < 4294967295:=m1 (B▸u) (by decide)
theorem Mine.Lake.n_b0 {a b c:Nat} (u:¬a+b<=c):c-a<=b:=Nat.sub_le_iff_le_add'.mpr (n1 (Nat.not_le.mp u))
theorem Mine.Lake.n_b1 {a b c:Nat} (u:a < b):a < c+(b+1-c):=m0 (k9 u) n_la
theorem Mine.Lake.n_b2 {a b:Nat} (u:a+1<=b):b=b-1+1:=(eY (d5 (n8 1 a) u)).symm
theorem Mine.Lake.n_b3 {a b:Nat} (u:a=b+1):(a:Int)-1=(b:Int):=Int.sub_eq_iff_eq_add.mpr (g8 Nat.cast u)
theorem Mine.Lake.n_b4 {a:Nat}:a+1≠a+2:=r9 (n5 (a+1))
theorem Mine.Lake.n_b5 {a b:Nat} (u:a<=b):b+1-(a+1) < b+1-a:=by rw [fJ,mQ u]; exact n5 _
theorem Mine.Lake.n_b6 {a b c d e:Nat} (B:a+20*b+200 < c) (u:d<=8):a+1+min e d < c:=m1 (d5 (i7 (d5 (iB e d) u) (a+1)) (by rw [t6,t6]; exact i7 (d5 (by decide) (n8 200 (20*b))) a)) B
theorem Mine.Lake.n_b7 {a c:Nat} {B:Int} (u:(a:Int)=max 0 (min B (c:Int))):a<=c:=Int.ofNat_le.mp (by rw [u]; exact Int.max_le.mpr ⟨bQ c,Int.min_le_right _ _⟩)
theorem Mine.Lake.n_b8 {a:Nat} (u:¬4<=a):4=a+(4-a):=(r6 (n1 (Nat.not_le.mp u))).symm
theorem Mine.Lake.n_b9 {a:Nat} (u:4 < a):a=4+(a-4):=(r6 (n1 u)).symm
theorem Mine.Lake.n_c0 {a:Nat}:a+1≠0:=v9 (n8 (oB 0) a)
theorem Mine.Lake.n_c1 {a b c d:Nat} (B:a<=b) (u:c+b+1<=d):c+a+(b-a)+1<=d:=by rw [t6 c,r6 B]; exact u
theorem Mine.Lake.n_c2 {a b c:Nat} (u:0 < a):b+c+a-1=b+(c+a-1):=by rw [t6]; exact Nat.add_sub_assoc (iG u) b
theorem Mine.Lake.n_c3 {a b c:Nat} (u:a<=b-c):c+a<=max c b:=(pI c b).elim (λ q=>d5 ((eZ q).mp u) (Nat.le_max_right _ _)) λ q=>d5 (i7 (d5 u (v1 (dL q))) c) (Nat.le_max_left _ _)
theorem Mine.Lake.n_c4 {a b:Nat}:a<=a+b+1:=j6 (n4 a b)
theorem Mine.Lake.n_c5 {a b:Nat}:a < a+b+1:=m2 (n4 a b)
theorem Mine.Lake.n_c6 {a b c:Nat} (u:a < b+c+1):a-b<=c:=Nat.sub_le_iff_le_add'.mpr (bG u)
theorem Mine.Lake.n_c7 {a b c:Nat} (B:a<=b) (u:¬a < b):c+a+1=c+b+1:=by rw [fD B (Nat.not_lt.mp u)]
theorem Mine.Lake.n_c8 {a b:Nat} (u:a-1+1=b) (B:¬a=0):a=b:=(gT (bR B)).symm.trans u
theorem Mine.Lake.n_c9 {a b c:Nat} (u:a=b+c+1):a-1+1=a:=by subst u; rfl
theorem Mine.Lake.n_d0 {a b:Nat}:a < a+(b+1):=m2 (n4 a b)
theorem Mine.Lake.n_d1 {a b c:Nat} (u:¬a < b+3) (B:c<=b+(a-2-b)):c < a:=m1 (r6 (dQ (dD (Nat.not_lt.mp u)))▸B) (Nat.sub_lt (m0 (lJ _) (Nat.not_lt.mp u)) (by decide))
theorem Mine.Lake.n_d2 {a b c d e:Nat} (D:3<=a) (B:a<=b) (u:c+b+1<=d):c<=e+(d-2-e):=d5 (dQ (d5 (i7 (d5 (dD D) B) c) (dD u))) n_la
theorem Mine.Lake.n_d3 {a b c:Nat} (B:a+2=b+c+1) (u:0 < c):a=b+(c-1):=by cases c with | zero=>cases u | succ c=>exact fZ (fZ B)
theorem Mine.Lake.n_d4 {a b c:Nat} (D:a-1 < b) (B:b+1=c) (u:c<=a):False:=Nat.lt_irrefl b (m0 (B▸n5 b) (d5 u (Nat.le_of_pred_lt D)))
theorem Mine.Lake.n_d5 {a b:Nat}:a+(b+1)-(a+1)=b:=(fJ (a+b) 1 a).trans (v3 a b)
theorem Mine.Lake.n_d6 {a b c:Nat} (B:a<=b) (u:b < c):c-(b+1)+1<=c-a:=d5 (v1 (n_sb u).symm) (Nat.sub_le_sub_left B c)
theorem Mine.Lake.n_d7 {a b c d:Nat} (D:a < b+1) (B:a=c+d) (u:0 < c):d < b:=m0 (B▸Nat.lt_add_of_pos_left u) (bG D)
theorem Mine.Lake.n_d8 {a:Nat}:a+3≠a+2:=v9 (n5 (a+2))
theorem Mine.Lake.n_d9 {a:Nat}:a+2≠a+3:=r9 (n5 (a+2))
theorem Mine.Lake.n_e0 {a:Nat}:a+2≠a+1:=v9 (n5 (a+1))
theorem Mine.Lake.n_e1 {a:Nat}:a-(a-5)<=1000:=d5 (Nat.sub_le_iff_le_add.mpr n_la) (by decide:5<=1000)
theorem Mine.Lake.n_e2 {a:Nat}:¬a+2=a+3:=r9 (n5 (a+2))
theorem Mine.Lake.n_e3 {a b c:Nat} (u:a+1<=b/\b < a+1+(c-(a+1))):a+(b-a)=b:=r6 (dD u.1)
theorem Mine.Lake.n_e4 {a b c d:Nat} (D:a<=180) (B:b<=a) (u:c+1<=d/\d < c+1+(b-(c+1))):d<=1000:=d5 (n1 (n_rl u)) (d5 B (d5 D (by decide)))
theorem Mine.Lake.n_e5 {a b c:Nat} (B:a<=180) (u:b<=a):b-(c+1)<=1000:=d5 (lO _ _) (d5 u (d5 B (by decide)))
theorem Mine.Lake.n_e6 {a b:Nat} (u:a+1-(b+1)=a-(b+1)+1):b+1+1*(a-(b+1))=a:=by rw [mC]; exact r6 (fK ((fJ a 1 b).symm.trans u))
theorem Mine.Lake.n_e7 {a b c:Nat} (u:a+(b+1)=c):a+1=c-b:=by subst u; rw [u3 b 1,← t6,lP]
theorem Mine.Lake.n_e8 {a b c:Nat} (u:a+(b+1)=c):b<=c-1:=by subst u; exact n8 b a
theorem Mine.Lake.n_e9 {a b:Nat} (u:0+(a+1)=b):b=b-1+1:=by subst u; rfl
theorem Mine.Lake.n_f0 {a b c d:Nat} (B:a=b) (u:c+1<=d/\d < c+1+(a-(c+1))):d-c < b-c:=B▸Nat.sub_lt_sub_right (dD u.1) (n_rl u)
theorem Mine.Lake.n_f1 {a b:Nat} (u:a < b):a+1*(b-a)=b:=by rw [mC]; exact r6 (n1 u)
theorem Mine.Lake.n_f2 {a b c d:Nat} (D:a<=b) (B:c < a) (u:d < c+(a-c)):d < b:=m0 (r6 (n1 B)▸u) D
theorem Mine.Lake.n_f3 {a b c:Nat} (B:0 < a) (u:a<=b-c):c+a-1 < b:=m0 (Nat.sub_lt (Nat.add_pos_right c B) Nat.one_pos) ((eZ (n1 (Nat.sub_pos_iff_lt.mp (m0 B u)))).mp u)
theorem Mine.Lake.n_f4 {a b c:Nat} (B:a<=9*b) (u:c<=9):c+a<=9*(b+1):=u3 a c▸dR B u
theorem Mine.Lake.n_f5 {a b c d:Nat} (B:a-b < c+1) (u:b+(d+1)=a):a-(b+1) < c:=m0 (Nat.pred_lt (iH (u▸dA (lJ d)))) (bG B)
theorem Mine.Lake.n_f6 {a b c:Nat} (u:a-b=c+1):b<=a:=n1 (fK u)
theorem Mine.Lake.n_ic {a:Nat} (h:0 < a):(a:Int)-1=((a-1:Nat):Int):=(Int.ofNat_sub h).symm
theorem Mine.Lake.m_a1 {a b c d:Nat} (B:a<=b) (u:c+(d+1)=a):c<=b:=d5 (n4 c (d+1)) (d5 (v1 u) B)
theorem Mine.Lake.m_a2 {a b c:Nat} (u:a+(b+1)=c):a < c:=u▸dA (lJ b)
theorem Mine.Lake.m_a3 {a b:Nat} (u:a < b+3):a < b \/ a-b < 3:=(nB a b).imp id λ q=>Nat.sub_lt_left_of_lt_add q u
theorem Mine.Lake.m_a4 {a b:Nat} (u:¬a < b+3):b<=a/\3<=a-b:=⟨d5 (n4 b 3) (Nat.not_lt.mp u),nW (Nat.not_lt.mp u)⟩
theorem Mine.Lake.m_a5 {a b:Nat} (u:¬a < b+3):max b (a-(3-1))=a-2:=Nat.max_eq_right (dQ (dD (Nat.not_lt.mp u)))
theorem Mine.Lake.m_a6 {a b:Nat} (u:a<=1000) (B:b < a):(b:Int)<=1000:=Int.ofNat_le.mpr (d5 (n1 B) u)
theorem Mine.Lake.m_a7 {a b:Nat} (u:min (a+1) (b+1)=a+1):a<=b:=v5 (d5 (v1 u.symm) (iB (a+1) (b+1)))
theorem Mine.Lake.m_a8 {a b c d:Nat} (B:a<=b) (u:b+1+c=d):c+1+a<=d:=d5 (v1 (u3 (c+1) a)) (d5 (m6 B (c+1)) (v1 ((l9 b 1 c).symm.trans u)))
theorem Mine.Lake.m_a9 {a b c:Nat} (D:a<=1000) (B:b<=c+1) (u:c < a):b<=2000:=d5 B (d5 u (d5 D (by decide)))
theorem Mine.Lake.m_b0 {a b c:Nat} (u:a<=b+1):a<=b+c+1:=d5 u (u9 (n4 b c))
theorem Mine.Lake.m_b1 {a b c d e:Nat} (J:a < b+1) (D:c+a=d) (B:e+b.succ=d) (u:c<=e):False:=f8 (D.trans B.symm) (r9 (m2 (dR u (bG J))))
theorem Mine.Lake.m_b2 {a b c:Nat} (D:a<=1000) (B:b<=a) (u:c<=b+1):c<=1001:=d5 u (u9 (d5 B D))
theorem Mine.Lake.m_b3 {a:Nat} (u:a≠0):-1+(a:Int)=((a-1:Nat):Int):=(pJ _ _).trans (n_ic (bR u))
theorem Mine.Lake.m_b4 {a b:Nat} (u:a=b+1):-1+(a:Int)=(b:Int):=by subst u; exact (pJ _ _).trans (n_ic (lJ b))
theorem Mine.Lake.m_b5 {b:Nat} {A:Int} (u:A.toNat<=b):A-(b:Int)<=0:=Int.sub_nonpos_of_le (Int.toNat_le.mp u)
theorem Mine.Lake.m_b6 {a b c:Nat} (u:a+10*(b+1)+100 < c):a < c:=m1 (d5 (n4 _ _) (n4 _ _)) u
theorem Mine.Lake.m_b7 {a b c:Nat} (u:a+20*(b+1)+200 < c):a+3+20*b+200 < c:=m1 (m6 (by rw [t6,u3 3]; exact i7 (i7 (by decide) _) a) 200) u
theorem Mine.Lake.m_b8 {a b c:Nat} (u:a+10*(b+1)+100 < c):a+1+10*b+100 < c:=m1 (m6 (by rw [t6,u3 1]; exact i7 (i7 (by decide) _) a) 100) u
theorem Mine.Lake.m_b9 {a b c:Nat} (D:a<=100) (B:b<=c+1) (u:c=a):b<=16777216+1:=d5 B (u9 (u▸d5 D (by decide)))
theorem Mine.Lake.m_c0 {a b c d:Nat} (B:a+1<=b) (u:c+20*b+200 < d):c+1+20*a+200 < d:=m1 (m6 (by rw [t6,u3 1]; exact i7 (d5 (i7 (by decide) _) (dG 20 B)) c) 200) u
theorem Mine.Lake.m_c1 {a b c d:Nat} (B:a+1<=b) (u:c+10*b+100 < d):c+1+10*a+100 < d:=m1 (m6 (by rw [t6,u3 1]; exact i7 (d5 (i7 (by decide) _) (dG 10 B)) c) 100) u
theorem Mine.Lake.m_c5 {a:Nat} (u:a<=20):4+3+20*a+200 < 9900:=m1 (m6 (i7 (dG 20 u) _) 200) (by decide)
theorem Mine.Lake.m_c6 {a b c:Nat} (B:a<=20) (u:1+b+1+10*20+100 < c):1+b+1+10*a+100 < c:=m1 (m6 (i7 (dG 10 B) _) 100) u
theorem Mine.Lake.m_c7 {a b c:Nat} (B:a<=1) (u:b<=c):a+b<=c+1:=u3 a b▸dR u B
theorem Mine.Lake.m_c8 {a b:Nat} (u:a<=1000) (B:b<=(a+1)*1):a+b<=16777216:=d5 (dR u (d5 B (fP 1 (u9 u)))) (by decide)
theorem Mine.Lake.m_c9 {a b:Nat} (B:a<=4*(b+1)) (u:4 < a):1<=b:=bR λ q=>by subst q; exact Nat.not_lt.mpr B u
theorem Mine.Lake.m_d0 {a b c d e:Nat} (D:a<=b) (B:c=d+(e+1)) (u:c=a):d<=b:=d5 (n4 d (e+1)) (d5 (v1 (B.symm.trans u)) D)
theorem Mine.Lake.m_d5 {a b c d e:Nat} (J:3<=a) (D:a<=b) (B:c+b+1<=d) (u:e<=c):¬d < e+3:=Nat.not_lt.mpr (d5 (dR u (d5 J D)) (dD B))
theorem Mine.Lake.m_d6 {a b c d:Nat} (B:a+b+1<=c) (u:d < a):d < c:=m0 u (d5 (n4 a (b+1)) B)
theorem Mine.Lake.m_d7 {a b:Nat} (u:a < b+1) (B:¬a=b):a < b:=cC (bG u) B
theorem Mine.Lake.m_d8 {a b c:Nat} (B:a<=b) (u:c+1 < a):c < b:=m0 (Nat.lt_of_succ_lt u) B
theorem Mine.Lake.m_d9 {a:Nat} (u:0 < a):((a-1:Nat):Int)+1=(a:Int):=by rw [← n_ic u]; exact Int.sub_add_cancel _ _
theorem Mine.Lake.m_e0 {a:Nat} (u:0 < a):-1+(a:Int)=((a-1:Nat):Int):=(pJ _ _).trans (n_ic u)
theorem Mine.Lake.m_e1 {a b c d:Nat} (B:a < b+1) (u:a=c+(d+1)):d < b:=m0 (u▸n8 (d+1) c) (bG B)
theorem Mine.Lake.m_e2 {a b c d:Nat} (B:a<=200) (u:a-b=c):min d c<=1000:=d5 (iB _ _) (u▸d5 (lO _ _) (d5 B (by decide)))
theorem Mine.Lake.m_e3 {a b c d:Nat} (D:a<=b+1) (B:1<=c) (u:d<=a+1):d<=b+c+1:=d5 u (u9 (d5 D (i7 B b)))
theorem Mine.Lake.m_e4 {a:Nat}:(max 0 (min (-1+((a+1:Nat):Int)) ((a+1:Nat):Int))).toNat=a:=n_mx (a:=a+1) (b:=1)
theorem Mine.Lake.m_e5 {a:Nat}:(max 0 (min (-5+(a:Int)) (a:Int))).toNat=a-5:=n_mx (b:=5)
theorem Mine.Lake.m_e6 {a b c:Nat} (B:a+4<=b) (u:c < a):c < b:=m0 u (d5 (n4 a 4) B)
theorem Mine.Lake.m_e7 {a b c d:Nat} (B:a+4<=b/\b < c) (u:d < a):d≠b:=r9 (m0 u (d5 (n4 a 4) B.1))
theorem Mine.Lake.m_e8 {a b c:Nat} (D:a<=200) (B:b < a) (u:c<=b):c<=1000:=d5 u (d5 (n1 B) (d5 D (by decide)))
theorem Mine.Lake.m_e9 {a b c:Nat} (D:a<=200) (B:b < a) (u:c<=b):c+1<=1000:=d5 (Nat.succ_le_of_lt (m1 u B)) (d5 D (by decide))
theorem Mine.Lake.m_f0 {a b:Nat} (u:a<=200) (B:b<=a):b<=1000:=d5 B (d5 u (by decide))
theorem Mine.Lake.m_f1 {a:Nat} (u:¬a=0):(a:Int) > 0:=Int.natCast_pos.mpr (bR u)
theorem Mine.Lake.m_f2 {a b c:Nat} (D:a < b) (B:b<=1000) (u:c<=a):c<=1000:=d5 u (d5 (n1 D) B)
theorem Mine.Lake.m_f3 {a b c:Nat} (B:a < b) (u:c<=a):c≠b:=r9 (m1 u B)
theorem Mine.Lake.m_f4 {a b c:Nat} (D:a<=180) (B:b<=a) (u:c=b+1):c<=1000:=u▸d5 (u9 (d5 B D)) (by decide)
theorem Mine.Lake.m_f5 {a b:Nat} (u:a<=180) (B:b<=a):b < 1000:=m1 (d5 B u) (by decide)
theorem Mine.Lake.m_f6 {a b:Nat} (u:a<=180) (B:b<=a):b<=200:=d5 B (d5 u (by decide))
theorem Mine.Lake.m_f7 {a b:Nat} (u:a < b) (B:4<=a):b≠1:=v9 (m0 (by decide) (d5 B (n1 u)))
theorem Mine.Lake.m_f8 {a b c:Nat} (D:a<=180) (B:b<=a) (u:c < b):c+1<=1000:=d5 u (d5 B (d5 D (by decide)))
theorem Mine.Lake.m_f9 {a b c:Nat} (D:a<=180) (B:b<=a) (u:c<=b):c+1+1<=1000:=d5 (m6 (d5 u (d5 B D)) 2) (by decide)
theorem Mine.Lake.m_g0 {a b c:Nat} (D:a<=180) (B:b<=a) (u:c<=b):1+c<=1000:=d5 (i7 (d5 u (d5 B D)) 1) (by decide)
theorem Mine.Lake.m_g1 {a b c:Nat} (D:a<=180) (B:b<=a) (u:c<=b):1+c+1<=1000:=d5 (u9 (i7 (d5 u (d5 B D)) 1)) (by decide)
theorem Mine.Lake.m_g2 {a b c:Nat} (u:a+(b+1)=c):a+1+(b+1)=c+1:=(l9 a 1 (b+1)).trans (g8 (·+1) u)
theorem Mine.Lake.m_g3 {a b c:Nat} (u:a+(b+1)=c):a=c-1-b:=by subst u; exact (lP (n:=a) (m:=b)).symm
theorem Mine.Lake.m_g4 {a b c:Nat} (u:a+(b+1)=c):b<=c-1:=by subst u; exact n8 b a
theorem Mine.Lake.m_g5 {a b:Nat} (u:a < b):min (a+1) (b+1)=a+1:=dT (u9 (n1 u))
theorem Mine.Lake.m_g6 {a b c:Nat} (u:a+(b+1)<=c):a+1+b<=c:=d5 (v1 (l9 a 1 b)) u
theorem Mine.Lake.m_g7 {a b c d:Nat} (J:a<=18) (D:b<=9) (B:c<=9) (u:d<=9*a):b+(d+c)<=180:=dR D (dR (d5 u (dG 9 J)) B)
theorem Mine.Lake.m_g8 {a b c:Nat} (D:a<=1000) (B:b<=a) (u:c=16777216):b+1<=c:=u▸u9 (d5 B (d5 D (by decide:1000<=16777215)))
theorem Mine.Lake.m_g9 {a b:Nat} (u:a<=18) (B:b<=9*a):¬0+b > 16777216:=Nat.not_lt.mpr (d5 (v1 (Nat.zero_add b)) (d5 B (d5 (dG 9 u) (by decide))))
theorem Mine.Lake.m_h0 {a b c:Nat} (u:a+(b+c)<=180):a+b<=1000:=d5 (i7 (n4 b c) a) (d5 u (by decide))
theorem Mine.Lake.m_h1 {a b c:Nat} (u:a+(b+c)<=180):a+b+c<=1000:=d5 (v1 (t6 a b c)) (d5 u (by decide))
theorem Mine.Lake.m_h2 {a b:Nat} (u:a<=200) (B:b<=a):b-0 < 1000:=m1 (d5 B u) (by decide)
theorem Mine.Lake.m_h3 {a b c:Nat} (u:a-b < c):c=c-1+1:=(eY (m1 (m9 _) u)).symm
theorem Mine.Lake.m_h4 {a:Nat} (u:0 < a):(a:Int)-1=((a-1:Nat):Int):=n_ic u
open List (replicate any_map)

open Array (size_push)
open Option (bind_eq_some_iff map_eq_some_iff)
open Bool (not_not)

namespace Mine.Lake
abbrev Pv:=g9->PySem.Shared->Prop
abbrev Ln:=List Nat
abbrev Lv:=List g9
end Mine.Lake
namespace Mine.Lake.Re
open PySem PySem.Sre PySem.Builtin.Re PyProof.Rows
theorem xN {m:M} (h:m.outcome.isSome=true):∀ n,r7 n m=m
 | 0=>rfl
 | n+1=>by show (if m.outcome.isSome=true then m else r7 n m.step)=m; rw [c7 h]
theorem kC:∀ (a b:Nat) (m:M),r7 (a+b) m=r7 b (r7 a m)
 | 0,b,m=>by rw [iX]; rfl
 | a+1,b,m=>by
  rw [show a+1+b=(a+b)+1 by exact nA (l9 _ _ 1)]
  by_cases h:m.outcome.isSome=true
  ·rw [xN h,xN h,xN h]
  ·show (if m.outcome.isSome=true then m else r7 (a+b) m.step)=r7 b (if m.outcome.isSome=true then m else r7 a m.step)
   rw [d0 h,d0 h]
   exact kC a b m.step
section
variable {M':Model} {A:n6} {E:Pv} {s:d6}
theorem qEc:∀ (T:Nat) (m:M) (n:Nat) {Q:M->d6->Prop},(r7 n m).outcome.isSome=true->n<=4 * T->1<=T->Q (r7 n m) s->wpAny M' A (reDrive T m) Q E s
 | 0,m,n,Q,h,hn,h1,hQ=>by lia
 | T+1,m,n,Q,h,hn,h1,hQ=>by
  show wpAny M' A (if (r7 4 m).outcome.isSome=true then pure (r7 4 m) else do rule "sre.turn"; reDrive T (r7 4 m)) Q E s
  by_cases h4:(r7 4 m).outcome.isSome=true
  ·rw [c7 h4]
   have e:r7 n m=r7 4 m:=by
    by_cases u:4<=n
    ·rw [show n=4+(n - 4) by simp [u],kC,xN h4]
    ·rw [show (4:Nat)=n+(4 - n) by exact n_b8 u,kC,xN h]
   rw [e] at hQ
   exact d9 hQ
  ·rw [d0 h4]
   have B:4 < n:=by
    refine Nat.not_le.mp λ u=>h4 ?_
    rw [show (4:Nat)=n+(4 - n) by simp [u],kC,xN h]; exact h
   have e:r7 n m=r7 (n - 4) (r7 4 m):=by
    conv=>lhs; rw [show n=4+(n - 4) by exact n_b9 B]
    rw [kC]
   rw [e] at h hQ
   exact d3 (pE (qEc T _ (n - 4) h (by exact Nat.sub_le_of_le_add hn) (by exact m_c9 hn B) hQ))
theorem uC {c:Nat->Bool} {u:Nat->String}:∀ (l:Ln) {Q:PUnit->d6->Prop},Q ⟨⟩ s->wpAny M' A (forIn l PUnit.unit λ i r=>if c i=true then do rule (u i); pure (fF PUnit.unit) else pure (fF PUnit.unit)) Q E s
 | [],Q,h=>by rw [List.forIn_nil]; exact d9 h
 | i::l,Q,h=>by
  rw [lQ]
  refine d3 ?_
  by_cases hc:c i=true
  ·rw [c7 hc]; exact d3 (pE (d9 (uC l h)))
  ·rw [d0 hc]; exact d9 (uC l h)
theorem end_run {m:M} {n:Nat} (u:(r7 n m).outcome=some .matched\/(r7 n m).outcome=some .failed) (hn:n<=4 * 2 ^ 64) {Q:Option M->d6->Prop}
  (hs:(r7 n m).outcome=some .matched->Q (some (r7 n m)) s) (B:(r7 n m).outcome=some .failed->Q none s):wpAny M' A (reRunToEnd m) Q E s:=by
 unfold reRunToEnd
 refine d3 (qEc (2 ^ 64) m n (by rcases u with h | h <;> rw [h] <;> rfl) hn (by decide) ?_)
 refine d3 (uC _ ?_)
 rcases u with h | h
 ·rw [h]; exact d9 (hs h)
 ·rw [h]; exact d9 (B h)
end
noncomputable def boundObj (id:String) (a:Addr):Obj:={ cls:=.type "builtin_function_or_method", data:=.fields #[.builtin id,.ref a] }
structure PatAt (h:mS) (pt:Addr) (code:Array Nat):Prop where
 at_:∃ op fs ct,h.get? pt=some op/\op.cls=.type "re.Pattern" /\ op.data=.fields fs/\reRawNat (fs.getD 6 .none)=0/\reRawNat (fs.getD 2 .none)=0/\fs.getD 5 .none=.ref ct /\
  ∃ oc items e,h.get? ct=some oc/\oc.data=.seq items e/\(items.map reRawOf).map (·.toNat)=code
noncomputable def zL:List Int->Int
 | i::_=>i
 | []=>0
noncomputable def zK:List Int->Int
 | _::l::_=>l
 | _=>2 ^ 63 - 1
inductive IntArgs:List Int->Lv->Prop
 | nil:IntArgs [] []
 | one (i:Int) (t:Tok):IntArgs [i] [.int i t]
 | two (i l:Int) (t u:Tok):IntArgs [i,l] [.int i t,.int l u]
section
variable {prog:gA} {w:World} {A:n6} {E:Pv} {s:d6}
theorem qNo {id f:String} {x:Str} {t:Tok} {is:List Int} {rest:Lv} (h:IntArgs is rest):reNamed id f ["string", "pos", "endpos"] 1 (.str x t::rest) []=pure [some (.str x t),rest[0]?,rest[1]?]:=by
 cases h <;> rfl
theorem qCw {M:Model} {i:Int} {t:Tok} {Q:Int->d6->Prop} (B : -(2 ^ 63)<=i) (h2:i < 2 ^ 63) (u:Q i s):wpAny M A (reSsize (.int i t)) Q E s:=by
 unfold reSsize
 refine d3 (v6 (a:=i) rfl ?_)
 rw [d0 (by simp; lia)]
 exact d9 u
theorem qHi {M:Model} {D:Addr} {x:Str} {t:Tok} {code:Array Nat} {pos lim:Int} (P:PatAt s.heap D code) {Q:ReTarget->d6->Prop}
  (J:Q { pattern:=.ref D,string:=.str x t,code:=code,text:=x.cps,kind:=0,groups:=0,pos:=min pos.toNat x.cps.size,lim:=min lim.toNat x.cps.size } s) :
  wpAny M A (do
   let fs ← fieldsOf (.ref D)
   let (text,kind) ← reTextOf (.str x t)
   let B:=reRawNat (fs.getD 6 .none)
   if B == 0 && kind == 1 then raiseError "TypeError" "cannot use a string pattern on a bytes-like object"
   if B == 1 && kind == 0 then raiseError "TypeError" "cannot use a bytes pattern on a string-like object"
   reNoCollectionInside (.str x t) kind
   let u (i:Int):Nat:=min i.toNat text.size
   pure { pattern:=.ref D,string:=.str x t,code:=(← reRawItems (fs.getD 5 .none)).map (·.toNat),text,kind,groups:=reRawNat (fs.getD 2 .none),pos:=u pos,lim:=u lim }) Q E s:=by
 refine bC λ S=>?_
 obtain ⟨op,fs,X,U,h2,h3,h4,h5,L,oc,items,e,O,T,V⟩:=P.at_
 refine S ?_
 refine d3 (wpAny_fieldsOf U h3 ?_)
 refine d3 (v6 (a:=(x.cps,0)) rfl ?_)
 dsimp only
 rw [h4]
 rw [zX1,zX1]
 refine d3 (v6 (a:=()) rfl ?_)
 rw [L]
 refine d3 ?_
 unfold reRawItems
 refine d3 (oE O T (d9 ?_))
 refine d9 ?_
 dsimp only [Option.getD]
 rw [V,h5]
 exact J
theorem qRp {M:Model} {L:Addr} {x:Str} {t:Tok} {is:List Int} {rest:Lv} {code:Array Nat} {id f:String} (P:PatAt s.heap L code) (h:IntArgs is rest) (B : -(2 ^ 63)<=zL is) (D:zL is < 2 ^ 63) (S : -(2 ^ 63)<=zK is) (O:zK is < 2 ^ 63) {Q:ReTarget->d6->Prop}
  (J:Q { pattern:=.ref L,string:=.str x t,code:=code,text:=x.cps,kind:=0,groups:=0,pos:=min (zL is).toNat x.cps.size,lim:=min (zK is).toNat x.cps.size } s) :
  wpAny M A (reTarget id f ⟨.ref L::.str x t::rest,[]⟩) Q E s:=by
 unfold reTarget
 dsimp only
 refine d3 (v6 (qNo h) ?_)
 dsimp only
 cases h with
 | nil=>refine d3 (d9 ?_); refine d3 (d9 ?_); exact qHi P J
 | one i u=>refine d3 (qCw B D ?_); refine d3 (d9 ?_); exact qHi P J
 | two i l u v=>refine d3 (qCw B D ?_); refine d3 (qCw S O ?_); exact qHi P J
end
noncomputable def jW (p e:Nat):Obj:={ cls:=.type "tuple", data:=.seq #[rawInt p,rawInt e] }
noncomputable def vY (x:Str) (t:Tok) (B u:Addr) (pos lim:Nat):Obj:={ cls:=.type "re.Match", data:=.fields #[.str x t,.ref B,rawInt pos,rawInt lim,rawInt (-1),.ref u] }
section
variable {prog:gA} {w:World} {A:n6} {E:Pv} {s:d6} {M:Model}
theorem qKj {u:Addr} {x:Str} {t:Tok} {pos lim p e:Nat} {m:Sre.M} (B:m.start=p) (h2:m.handed=e) (h3:m.lastindex = -1) {Q:Pv}
  (J:Q (.ref (s.heap.objs.size+1)) { s with heap:=(s.heap.push (jW p e)).push (vY x t u s.heap.objs.size pos lim) }):wpAny M A (reNewMatch (.ref u) (.str x t) 0 pos lim m) Q E s:=by
 unfold reNewMatch
 rw [d0 (by simp)]
 refine d3 (v2 ?_ (by show (2:Nat)<=g0; decide))
 unfold newFields
 refine v2 ?_ (by show (6:Nat)<=g0+2; decide)
 have D:∀ o:Obj,(s.heap.push o).objs.size=s.heap.objs.size+1:=λ o=>iC ..
 dsimp only
 rw [D]
 rw [B,h2,h3]
 exact J
theorem qIf {b D:Addr} {id:String} (u:s.heap.get? b=some (boundObj id D)) {Q:Keeper->d6->Prop} (B:∀ k,Q k s):wpAny M A (keeperOf (.ref b)) Q E s:=by
 unfold keeperOf
 refine d3 (fA u ?_)
 exact d9 (B _)
end
theorem vX:PlainAttrs "re.Match" :=
 ⟨⟨"object.__getattribute__", by rw [bI,n9]; kernel_rfl,by decide +kernel⟩,by rw [bI,n9]; kernel_rfl⟩
theorem qXk:Slot "re.Match" "end" "re.Match.end" :=
 .of (owner:="re.Match") (n:="end") (by rw [bI,n9]; kernel_rfl) (by decide +kernel) (by decide +kernel) (by decide +kernel)
  (by first | exact .inl (by decide +kernel) | exact .inr (by decide +kernel)) (by rw [eR]; kernel_rfl)
theorem qUf:entryFor table "re.Match.end" = some Builtin.«re.Match.end»:=eS (by kernel_rfl)
theorem wA:Manifest.owners.lookup (String.ofList ['h','c','t','a','M','.','e','r'].reverse)=some Manifest.sig_re_Match:=by kernel_rfl
theorem zCb (a:g9):argsOk "re.Match.end" ⟨[a],[]⟩:=by
 unfold argsOk; rw [signature?_of (id:="re.Match.end") (n:=['d','n','e']) (o:=['h','c','t','a','M','.','e','r']) (by kernel_rfl) wA]; kernel_rfl
section
variable {M:Model} {A:n6} {E:Pv} {s:d6} {prog:gA} {w:World}
structure MatchAt (h:mS) (a p e:Nat):Prop where
 there:∃ o ot vs items tp aQ t u,h.get? a=some o/\o.cls=.type "re.Match" /\ o.data=.fields vs/\vs.getD 5 .none=.ref tp/\h.get? tp=some ot/\ot.data=.seq items aQ/\items.toList=[.int p t,.int e u]
theorem zAe {a p e:Nat} (X:MatchAt s.heap a p e) {Q:ReFound->d6->Prop} (D:∀ x,x.spans = #[(p:Int),(e:Int)]->Q x s):wpAny M A (reFound (.ref a)) Q E s:=by
 obtain ⟨o,ot,vs,items,S,T,t,u,O,h2,h3,h4,h5,J,L⟩:=X.there
 unfold reFound
 refine d3 (wpAny_fieldsOf O h3 ?_)
 rw [h4]
 refine d3 ?_
 unfold reRawItems
 refine d3 (oE h5 J (d9 ?_))
 refine d9 (D _ ?_)
 dsimp only [Option.getD]
 obtain ⟨l⟩:=items
 have B:l=[.int p t,.int e u]:=L
 subst B
 show (pM _).map _=_
 rw [List.map_toArray]
 rfl
theorem qNr {a p e:Nat} {name u:String} (X:MatchAt s.heap a p e) {Q:ReFound×Nat->d6->Prop} (B:∀ x,x.spans = #[(p:Int),(e:Int)]->Q (x,0) s):wpAny M A (reOneGroup name u ⟨[.ref a],[]⟩) Q E s:=by
 unfold reOneGroup
 refine d3 (v6 (a:=(.ref a,[])) rfl ?_)
 dsimp only
 exact d3 (zAe X λ x hx=>d3 (d9 (d9 (B x hx))))
theorem qVy {a p e:Nat} (X:MatchAt s.heap a p e) {Q:PySem.Fin->d6->Prop} (u:Q (.done (.ret (.int e s.toks))) { s with toks:=s.toks+1 }):wpAny M A (Builtin.«re.Match.end» ⟨[.ref a],[]⟩) Q E s:=by
 unfold Builtin.«re.Match.end»
 refine d3 (qNr X λ x hx=>?_)
 dsimp only
 rw [hx]
 unfold retInt
 exact d3 (mF (d9 u))
theorem zBr {a p e:Nat} (X:MatchAt s.heap a p e) {Q:Pv} (D:Q (.int e s.toks) { s with toks:=s.toks+1 }):wpAny (model prog w) A (call (.builtin "re.Match.end") [.ref a]) Q E s:=by
 refine bC λ J=>?_
 obtain ⟨o,ot,vs,items,L,O,t,u,B,h2,_⟩:=X.there
 refine J ?_
 refine eT qXk ⟨o,B,h2⟩ qUf ?_ (zCb _)
 exact qVy X ⟨_,rfl,D⟩
noncomputable def upTo (len:Nat) (i:Int):Nat:=(max 0 (if i < 0 then i+len else i)).toNat
noncomputable def xR (x y:Str) (u hi:Nat):Int:=match fS x y u hi with
 | some i=>(i:Int)
 | none=>-1
theorem qMf {x y:Str} {t u v v':Tok} {i j:Int}:Gives (Builtin.«str.rfind» ⟨[.str x t,.str y u,.int i v,.int j v'],[]⟩) (.int (xR x y (upTo x.length i) (min (upTo x.length j) x.length))):=by
 show Gives (match fS x y (upTo x.length i) (min (upTo x.length j) x.length) with | some i=>retInt i | none=>(do rule "str.rfind.not-found"; retInt (-1))) _
 unfold xR
 cases fS x y (upTo x.length i) (min (upTo x.length j) x.length) with
 | none=>exact .rule (.of_eq rfl)
 | some i=>exact .of_eq rfl
theorem qOx {x y:Str} {t u v v':Tok} {i j:Int} {Q:Pv} (B:Q (.int (xR x y (upTo x.length i) (min (upTo x.length j) x.length)) s.toks) { s with toks:=s.toks+1 }) :
  wpAny (model prog w) A (call (.builtin "str.rfind") [.str x t,.str y u,.int i v,.int j v']) Q E s :=
 call_gives nG (aT s x t) PySem.F.entry_str_rfind (PySem.F.args_str_rfind_4 _ _ _ _) qMf B
end
end Mine.Lake.Re
namespace Mine.Lake.Re
open PySem PySem.Sre
def Reach (m:M) (Q:M->Prop) (k:Nat):Prop:=∃ n,n<=k/\Q (r7 n m)
theorem Reach.here {m:M} {Q:M->Prop} (h:Q m):Reach m Q 0:=⟨0,d7 _,h⟩
theorem Reach.bind {m:M} {Q R:M->Prop} {k l:Nat} (h:Reach m Q k) (g:∀ B,Q B->Reach B R l):Reach m R (k+l):=by
 obtain ⟨n,hn,q⟩:=h
 obtain ⟨D,u,r⟩:=g _ q
 exact ⟨n+D,by exact dR hn u,by rw [kC]; exact r⟩
theorem Reach.mono {m:M} {Q:M->Prop} {k l:Nat} (h:Reach m Q k) (u:k<=l):Reach m Q l:=let ⟨n,hn,q⟩:=h; ⟨n,by exact d5 hn u,q⟩
theorem Reach.step {m:M} {Q:M->Prop} {k:Nat} (u:m.outcome=none) (h:Reach m.step Q k):Reach m Q (k+1):=by
 obtain ⟨n,hn,q⟩:=h
 refine ⟨n+1,by exact m2 hn,?_⟩
 show Q (if m.outcome.isSome=true then m else r7 n m.step)
 rw [d0 (by rw [u]; decide)]; exact q
structure Cf where
 code:Array Nat
 text:Array Nat
 lim:Nat
 ls:Nat
noncomputable def st (c:Cf) (start pc pos handed:Nat) (om:Bool) (fs:List fG) (wt:Nat) (u:Option Bool) (sn:Seen):M :=
 { code:=c.code,text:=c.text,lim:=c.lim,start:=start,lastStart:=c.ls,pc:=pc,pos:=pos,handed:=handed,outermost:=om,marks:=#[],frames:=fs,weight:=wt,answer:=u,seen:=sn }
section
variable {c:Cf} {start pc pos handed wt:Nat} {om:Bool} {fs:List fG} {sn:Seen}
theorem kB (h:pc < c.code.size):(st c start pc pos handed om fs wt none sn).step=(st c start pc pos handed om fs wt none sn).exec:=by
 unfold M.step
 rw [d0 (by show ¬ (none:Option mG).isSome=true; decide)]
 show (if pc < c.code.size then _ else _)=_
 rw [c7 h]
theorem qYx {d:Nat} (h:pc < c.code.size) (B:c.code.getD pc 0=16) (D:c.code.getD (pc+1) 0=d) :
  ∃ u,(st c start pc pos handed om fs wt none sn).step=if pos < c.lim/\c.text.getD pos 0=d then st c start (pc+2) (pos+1) handed om fs wt none u else st c start pc pos handed om fs wt (some false) u:=by
 rw [kB h]
 unfold pR
 have hw:(st c start pc pos handed om fs wt none sn).word 0=16:=B
 rw [hw]
 refine ⟨sn.add 16,?_⟩
 show (if pos ≥ c.lim then _ else match accepts c.code pc (c.text.getD pos 0) (sn.add 16) with | .error J=>_ | .ok (false,seen)=>_ | .ok (true,seen)=>_)=_
 have ha:accepts c.code pc (c.text.getD pos 0) (sn.add 16)=.ok (c.text.getD pos 0 == d,sn.add 16):=by
  unfold accepts
  rw [B,D]; rfl
 have hi:itemWidth c.code pc=2:=by unfold itemWidth; rw [B]; rfl
 rw [ha]
 by_cases hp:pos < c.lim
 ·refine (d0 (by simp [hp])).trans ?_
  by_cases hd:c.text.getD pos 0=d
  ·rw [c7 ⟨hp,hd⟩]
   have:(c.text.getD pos 0 == d)=true:=by simpa using hd
   rw [this]
   show (⟨_,_,_,_,_,_,_,_,_,_,_,_,_,_,_,_,_,_,_,_,_⟩:M)=_
   unfold st
   congr 1
   show pc+itemWidth c.code pc=pc+2
   rw [hi]
  ·rw [d0 (λ q=>hd q.2)]
   have:(c.text.getD pos 0 == d)=false:=by simpa using hd
   rw [this]; rfl
 ·rw [c7 (by exact gB hp),d0 (λ q=>hp q.1)]; rfl
end
def zJq (code:Array Nat):Nat->Ln->Prop
 | _,[]=>True
 | pc,d::r=>pc < code.size/\code.getD pc 0=16/\code.getD (pc+1) 0=d/\zJq code (pc+2) r
noncomputable def vJ (text:Array Nat) (lim:Nat):Nat->Ln->Bool
 | _,[]=>true
 | p,d::r=>decide (p < lim) && text.getD p 0 == d && vJ text lim (p+1) r
section
variable {c:Cf} {start pc pos handed wt:Nat} {om:Bool} {fs:List fG} {sn:Seen}
def qFm (c:Cf) (start:Nat) (fs:List fG) (wt:Nat) (b:Bool) (hd:Nat) (m:M):Prop:=∃ pc pos handed om sn,m=st c start pc pos handed om fs wt (some b) sn/\(b=true->handed=hd)
theorem qKn:∀ (w:Ln) (pc pos:Nat) (sn:Seen),zJq c.code pc w ->
  Reach (st c start pc pos handed om fs wt none sn) (λ m=>(vJ c.text c.lim pos w=true/\∃ u,m=st c start (pc+2 * w.length) (pos+w.length) handed om fs wt none u)\/(vJ c.text c.lim pos w=false/\qFm c start fs wt false 0 m)) w.length
 | [],pc,pos,sn,_=>⟨0,d7 _,.inl ⟨rfl,sn,rfl⟩⟩
 | d::r,pc,pos,sn,h=>by
  refine bC λ J=>?_
  obtain ⟨B,h2,h3,h4⟩:=h
  obtain ⟨u,e⟩:=qYx (start:=start) (pos:=pos) (handed:=handed) (om:=om) (fs:=fs) (wt:=wt) (sn:=sn) B h2 h3
  refine J ?_
  refine Reach.step rfl ?_
  rw [e]
  by_cases hp:pos < c.lim/\c.text.getD pos 0=d
  ·rw [c7 hp]
   refine bC λ J=>?_
   obtain ⟨n,hn,q⟩:=qKn r (pc+2) (pos+1) u h4
   refine J ?_
   have O:vJ c.text c.lim pos (d::r)=vJ c.text c.lim (pos+1) r:=by
    show (decide (pos < c.lim) && c.text.getD pos 0 == d && vJ c.text c.lim (pos+1) r)=_
    rw [h8 hp.1,hp.2]; simp
   refine ⟨n,hn,?_⟩
   rw [O]
   rcases q with ⟨L,D,S⟩ | q
   ·refine .inl ⟨L,D,?_⟩
    rw [S]
    congr 1
    ·simp; exact l9 _ 2 (2 * _)
    ·simp; exact l9 _ 1 _
   ·exact .inr q
  ·rw [d0 hp]
   refine ⟨0,m9 _,.inr ⟨?_,pc,pos,handed,om,u,rfl,λ q=>zF1 q⟩⟩
   show (decide (pos < c.lim) && c.text.getD pos 0 == d && vJ c.text c.lim (pos+1) r)=_
   by_cases B:pos < c.lim
   ·have:(c.text.getD pos 0 == d)=false:=by simpa using λ q=>hp ⟨B,q⟩
    rw [this]; simp
   ·simp [B]
theorem qRw {t:Nat} (h:pc < c.code.size) (B:c.code.getD pc 0=15) (D:pc+1+c.code.getD (pc+1) 0=t) :
  ∃ u,(st c start pc pos handed om fs wt none sn).step=st c start t pos handed om fs wt none u:=by
 rw [kB h]
 unfold pR
 have hw:(st c start pc pos handed om fs wt none sn).word 0=15:=B
 rw [hw]
 exact ⟨sn.add 15,by rw [← D]; rfl⟩
noncomputable def bound (text:Array Nat) (lim p:Nat):Bool:=lim != 0 && ((decide (p > 0) && isWordUni (text.getD (p - 1) 0)) != (decide (p < lim) && isWordUni (text.getD p 0)))
theorem qOy (h:pc < c.code.size) (J:c.code.getD pc 0=6) (D:c.code.getD (pc+1) 0=10) :
  ∃ B,(st c start pc pos handed om fs wt none sn).step=if bound c.text c.lim pos=true then st c start (pc+2) pos handed om fs wt none B else st c start pc pos handed om fs wt (some false) B:=by
 rw [kB h]
 unfold pR
 have hw:(st c start pc pos handed om fs wt none sn).word 0=6:=J
 have L:(st c start pc pos handed om fs wt none sn).word 1=10:=D
 rw [hw]
 refine ⟨(sn.add 6).add 53,?_⟩
 have ha:∀ s':Seen,M.isAt { st c start pc pos handed om fs wt none sn with seen:=s' } (fT { st c start pc pos handed om fs wt none sn with seen:=s' } 1)=.ok (bound c.text c.lim pos):=λ s'=>by
  have:fT { st c start pc pos handed om fs wt none sn with seen:=s' } 1=10:=D
  rw [this]
  show Except.ok (c.lim != 0 && ((decide (pos > 0) && isWordUni (c.text.getD (pos - 1) 0)) != (decide (pos < c.lim) && isWordUni (c.text.getD pos 0))) == true)=_
  congr 1
  unfold bound
  simp
 show (match M.isAt { st c start pc pos handed om fs wt none sn with seen:=sn.add 6 } (fT { st c start pc pos handed om fs wt none sn with seen:=sn.add 6 } 1) with | .error O=>_ | .ok yes=>_)=_
 rw [ha]
 have e53:43+fT { st c start pc pos handed om fs wt none sn with seen:=sn.add 6 } 1=53:=by
  have:fT { st c start pc pos handed om fs wt none sn with seen:=sn.add 6 } 1=10:=D
  rw [this]
 show (if bound c.text c.lim pos=true then _ else _)=_
 by_cases u:bound c.text c.lim pos=true
 ·rw [c7 u,c7 u]
  show ({ st c start pc pos handed om fs wt none sn with seen:=(sn.add 6).add (43+fT { st c start pc pos handed om fs wt none sn with seen:=sn.add 6 } 1),pc:=pc+2 }:M)=_
  rw [e53]; rfl
 ·rw [d0 u,d0 u]
  show ({ st c start pc pos handed om fs wt none sn with seen:=(sn.add 6).add (43+fT { st c start pc pos handed om fs wt none sn with seen:=sn.add 6 } 1),answer:=some false }:M)=_
  rw [e53]; rfl
theorem qUt (h:pc < c.code.size) (B:c.code.getD pc 0=1) :
  ∃ u,(st c start pc pos handed om fs wt none sn).step=st c start pc pos pos om fs wt (some true) u:=by
 rw [kB h]
 unfold pR
 have hw:(st c start pc pos handed om fs wt none sn).word 0=1:=B
 rw [hw]
 refine ⟨sn.add 1,?_⟩
 show (if (om && ((false && (pos != c.lim)) || (false && (pos == start))))=true then _ else _)=_
 refine (d0 (by simp)).trans ?_
 rfl
end
noncomputable def nb (alt pos:Nat) (om:Bool):fG:={ wait:=.nextBranch,pc:=alt,pos:=pos,outermost:=om }
def zJs (code:Array Nat) (E:Nat):Nat->List (Ln)->Prop
 | alt,[]=>code.getD alt 0=0
 | alt,w::r=>code.getD alt 0=2 * w.length+3/\zJq code (alt+1) w/\alt+1+2 * w.length < code.size/\code.getD (alt+1+2 * w.length) 0=15/\alt+1+2 * w.length+1+code.getD (alt+1+2 * w.length+1) 0=E/\zJs code E (alt+2 * w.length+3) r
def zQk (code:Array Nat) (E:Nat):Prop:=E < code.size/\code.getD E 0=6/\code.getD (E+1) 0=10/\E+2 < code.size/\code.getD (E+2) 0=1
def zX (text:Array Nat) (lim p:Nat):List (Ln)->Option Nat
 | []=>none
 | w::r=>if vJ text lim p w && bound text lim (p+w.length) then some (p+w.length) else zX text lim p r
noncomputable def cost:List (Ln)->Nat
 | []=>0
 | w::r=>w.length+4+cost r
section
variable {c:Cf} {start pc pos handed wt:Nat} {om:Bool} {fs:List fG} {sn:Seen}
theorem zCg {alt:Nat} (hw:wt < 16777216):(st c start pc pos handed om fs wt none sn).alternative alt {}=if c.code.getD alt 0=0 then st c start pc pos handed om fs wt (some false) sn else st c start (alt+1) pos pos om (nb alt pos om::fs) (wt+1) none sn:=by
 unfold M.alternative
 show (if (c.code.getD alt 0 == 0)=true then _ else _)=_
 by_cases h:c.code.getD alt 0=0
 ·rw [c7 h,c7 (by simpa using h)]; rfl
 ·rw [d0 h,d0 (by simpa using h)]
  unfold M.attempt
  refine (d0 (by show ¬ (wt+1+0 > 16777216); exact Nat.not_lt.mpr hw)).trans ?_
  rfl
theorem qGb {alt:Nat} {b:Bool} {D B h':Nat} {u:Bool} :
  (st c start D B h' u (nb alt pos om::fs) (wt+1) (some b) sn).step=if b=true then st c start alt pos h' om fs wt (some true) sn else (st c start alt pos h' om fs wt none sn).alternative (alt+c.code.getD alt 0) {}:=by
 unfold M.step
 refine (d0 (by show ¬ (none:Option mG).isSome=true; decide)).trans ?_
 show oG { st c start D B h' u fs (wt+1 - (1+0)) none sn with pc:=alt,pos:=pos,outermost:=om } (nb alt pos om) b=_
 have e:wt+1 - (1+0)=wt:=by simp
 rw [e]
 unfold oG
 cases b with
 | true=>rfl
 | false=>rfl
set_option tactic.hygienic true in
theorem yR {E:Nat} (T:zQk c.code E):∀ (ws:List (Ln)) (alt pc handed:Nat) (sn:Seen),zJs c.code E alt ws->wt+1 < 16777216 ->
  Reach ((st c start pc pos handed om fs wt none sn).alternative alt {}) (λ m=>(∃ e,zX c.text c.lim pos ws=some e/\qFm c start fs wt true e m)\/(zX c.text c.lim pos ws=none/\qFm c start fs wt false 0 m)) (cost ws)
 | [],alt,pc,handed,sn,h,hw=>by
  rw [zCg (by exact n1 hw),c7 (show c.code.getD alt 0=0 from h)]
  exact ⟨0,d7 _,.inr ⟨rfl,pc,pos,handed,om,sn,rfl,λ q=>zF1 q⟩⟩
 | w::r,alt,pc,handed,sn,h,hw=>by
  obtain ⟨Y,a2,a3,a4,a5,a6⟩:=h
  rw [zCg (by exact n1 hw),d0 (by rw [Y]; exact n_a0)]
  have next:∀ m,(vJ c.text c.lim pos w && bound c.text c.lim (pos+w.length))=false->qFm c start (nb alt pos om::fs) (wt+1) false 0 m->Reach m (λ m=>(∃ e,zX c.text c.lim pos (w::r)=some e/\qFm c start fs wt true e m)\/(zX c.text c.lim pos (w::r)=none/\qFm c start fs wt false 0 m)) (1+cost r):=by
   intro m D J
   obtain ⟨p',q',h',ad,u,rfl,_⟩:=J
   refine (Reach.step (k:=cost r) rfl ?_).mono (by exact v1 (u3 _ 1))
   rw [qGb,zX1,Y]
   have ih:=yR T r (alt+2 * w.length+3) alt h' u a6 hw
   have e:zX c.text c.lim pos (w::r)=zX c.text c.lim pos r:=by
    show (if _ then _ else _)=_
    rw [d0 (by rw [D]; decide)]
   rw [e]
   rw [show alt+(2 * w.length+3)=alt+2 * w.length+3 by rfl]
   exact ih
  have X:=qKn (c:=c) (start:=start) (handed:=pos) (om:=om) (fs:=nb alt pos om::fs) (wt:=wt+1) w (alt+1) pos sn a2
  have O:cost (w::r)=w.length+(3+(1+cost r)):=by show w.length+4+cost r=_; simp +arith
  rw [O]
  refine X.bind λ m J=>?_
  rcases J with ⟨B,u,rfl⟩ | ⟨D,hs⟩
  ·obtain ⟨U,e2⟩:=qRw (c:=c) (start:=start) (pos:=pos+w.length) (handed:=pos) (om:=om) (fs:=nb alt pos om::fs) (wt:=wt+1) (sn:=u) (pc:=alt+1+2 * w.length) a3 a4 a5
   have s1:Reach (st c start (alt+1+2 * w.length) (pos+w.length) pos om (nb alt pos om::fs) (wt+1) none u) (λ m=>m=st c start E (pos+w.length) pos om (nb alt pos om::fs) (wt+1) none U) 1:=Reach.step rfl ⟨0,d7 _,e2⟩
   refine (s1.bind (l:=2+(1+cost r)) λ m J=>?_).mono (by simp +arith)
   subst J
   obtain ⟨S,e3⟩:=qOy (c:=c) (start:=start) (pos:=pos+w.length) (handed:=pos) (om:=om) (fs:=nb alt pos om::fs) (wt:=wt+1) (sn:=U) T.1 T.2.1 T.2.2.1
   rw [show 2+(1+cost r)=(1+(1+cost r))+1 by exact n_a1]
   refine Reach.step rfl ?_
   rw [e3]
   by_cases L:bound c.text c.lim (pos+w.length)=true
   ·rw [c7 L]
    obtain ⟨V,e4⟩:=qUt (c:=c) (start:=start) (pos:=pos+w.length) (handed:=pos) (om:=om) (fs:=nb alt pos om::fs) (wt:=wt+1) (sn:=S) T.2.2.2.1 T.2.2.2.2
    rw [show 1+(1+cost r)=(1+cost r)+1 by exact nA (u3 (1+_) 1)]
    refine Reach.step rfl ?_
    rw [e4]
    rw [show 1+cost r=cost r+1 by exact nA (u3 _ 1)]
    refine Reach.step rfl ?_
    rw [qGb,c7 rfl]
    refine ⟨0,m9 _,.inl ⟨pos+w.length,?_,alt,pos,pos+w.length,om,V,rfl,λ z=>rfl⟩⟩
    show (if _ then _ else _)=_
    rw [c7 (by rw [B,L]; rfl)]
   ·rw [d0 L]
    refine (next _ (by rw [B]; simpa using L) ⟨E,pos+w.length,pos,om,S,rfl,λ q=>zF1 q⟩).mono (by simp)
  ·exact (next m (by rw [D]; rfl) hs).mono (by simp)
end
noncomputable def qL (d:Nat):Bool:=d == 32 || d == 9
def blk (text:Array Nat):Nat->Nat->Nat
 | 0,_=>0
 | n+1,p=>if qL (text.getD p 0)=true then blk text n (p+1)+1 else 0
theorem zBx {text:Array Nat} {n p:Nat}:blk text (n+1) p=if qL (text.getD p 0)=true then blk text n (p+1)+1 else 0:=rfl
theorem zBw (text:Array Nat):∀ n p,blk text n p<=n
 | 0,_=>d7 _
 | n+1,p=>by rw [zBx]; split; exact u9 (zBw text n (p+1)); exact m9 _
set_option tactic.hygienic true in
theorem qGu (text:Array Nat):∀ n p k,k < blk text n p->qL (text.getD (p+k) 0)=true
 | 0,_,k,h=>f8 h (lE _)
 | n+1,p,k,h=>by
  rw [zBx] at h
  split at h
  ·rename_i u
   cases k with
   | zero=>exact u
   | succ k=>rw [show p+(k+1)=(p+1)+k by exact nA (l9 _ 1 _)]; exact qGu text n (p+1) k (by simp_all)
  ·lia
def qEr (code:Array Nat) (i:Nat):Prop:=code.getD i 0=13/\code.getD (i+2) 0=16/\code.getD (i+2+1) 0=32/\code.getD (i+4) 0=16/\code.getD (i+4+1) 0=9/\code.getD (i+6) 0=0/\3<=code.size
theorem qGl {code:Array Nat} {ch fuel i d:Nat} {yes:Bool} {seen:Seen} (B:code.getD i 0=16) (D:code.getD (i+1) 0=d) :
  ∃ u,inSet code ch (fuel+1) i yes seen=if ch=d then .ok (yes,u) else inSet code ch fuel (i+2) yes u:=by
 refine ⟨seen.add (code.getD (i+0) 0),?_⟩
 have e0:ops[code.getD (i+0) 0]? = some .LITERAL:=(g8 (λ z=>ops[z]?) B).trans rfl
 refine (g8 (λ z=>inSet.match_1 (λ q=>Except String (Bool×Seen)) z _ _ _ _ _ _ _ _ _) e0).trans ?_
 show (if (ch == code.getD (i+1) 0)=true then _ else _)=_
 rw [D]
 by_cases h:ch=d
 ·rw [c7 h,c7 (by simpa using h)]
 ·rw [d0 h,d0 (by simpa using h)]
theorem qTt {code:Array Nat} {ch fuel i:Nat} {yes:Bool} {seen:Seen} (B:code.getD i 0=0):∃ u,inSet code ch (fuel+1) i yes seen=.ok (!yes,u):=by
 refine ⟨seen.add (code.getD (i+0) 0),?_⟩
 have e0:ops[code.getD (i+0) 0]? = some .FAILURE:=(g8 (λ z=>ops[z]?) B).trans rfl
 exact (g8 (λ z=>inSet.match_1 (λ q=>Except String (Bool×Seen)) z _ _ _ _ _ _ _ _ _) e0).trans rfl
theorem qVk {code:Array Nat} {i:Nat} (B:qEr code i) (ch:Nat) (seen:Seen):∃ D,accepts code i ch seen=.ok (qL ch,D):=by
 refine bC λ J=>?_
 obtain ⟨S,Y,O,T,V,X,U⟩:=B
 have ha:accepts code i ch seen=inSet code ch code.size (i+2) true seen:=by unfold accepts; rw [S]; rfl
 obtain ⟨n,hn⟩:∃ n,code.size=n+1+1+1:=⟨code.size - 3,by exact (eY U).symm⟩
 refine J ?_
 rw [ha,hn]
 refine bC λ J=>?_
 obtain ⟨L,e1⟩:=qGl (ch:=ch) (fuel:=n+1+1) (yes:=true) (seen:=seen) Y O
 obtain ⟨s2,e2⟩:=qGl (ch:=ch) (fuel:=n+1) (yes:=true) (seen:=L) T V
 obtain ⟨s3,e3⟩:=qTt (ch:=ch) (fuel:=n) (yes:=true) (seen:=s2) X
 refine J ?_
 rw [e1]
 by_cases u:ch=32
 ·rw [c7 u]; exact ⟨L,by rw [show qL ch=true by unfold qL; simp [u]]⟩
 ·rw [d0 u,show i+2+2=i+4 by rfl,e2]
  by_cases h2:ch=9
  ·rw [c7 h2]; exact ⟨s2,by rw [show qL ch=true by unfold qL; simp [h2]]⟩
  ·rw [d0 h2,show i+4+2=i+6 by rfl,e3]; exact ⟨s3,by rw [show qL ch=false by unfold qL; simp [u,h2]]; rfl⟩
theorem qGa {code text:Array Nat} {i:Nat} (B:qEr code i):∀ (n p found:Nat) (seen:Seen),∃ u,Sre.run code text i n p found seen=.ok (found+blk text n p,u)
 | 0,p,found,seen=>⟨seen,rfl⟩
 | n+1,p,found,seen=>by
  obtain ⟨D,e1⟩:=qVk B (text.getD p 0) seen
  show ∃ u,(accepts code i (text.getD p 0) seen >>= _)=_
  rw [e1]
  show ∃ u,(if qL (text.getD p 0)=true then Sre.run code text i n (p+1) (found+1) D else pure (found,D))=_
  rw [zBx]
  by_cases h:qL (text.getD p 0)=true
  ·rw [c7 h,c7 h]
   obtain ⟨s2,e2⟩:=qGa B n (p+1) (found+1) D
   exact ⟨s2,by rw [e2]; congr 2; exact l9 _ 1 _⟩
  ·rw [d0 h,d0 h]; exact ⟨D,rfl⟩
noncomputable def gb (pc pos:Nat) (om:Bool) (n:Nat):fG:={ wait:=.giveBack,pc:=pc,pos:=pos,outermost:=om,count:=n }
def Rep (code:Array Nat) (pc:Nat):Prop:=pc < code.size/\code.getD pc 0=24/\code.getD (pc+1) 0=11/\code.getD (pc+2) 0=0/\code.getD (pc+3) 0=4294967295/\qEr code (pc+4)
section
variable {c:Cf} {start pc pos handed wt:Nat} {om:Bool} {fs:List fG} {sn:Seen}
theorem rep_step (R:Rep c.code pc) (hp:pos<=c.lim) (U:c.lim < 4294967295) (hw:wt < 16777216) :
  ∃ L,(st c start pc pos handed om fs wt none sn).step=st c start (pc+12) (pos+blk c.text (c.lim - pos) pos) (pos+blk c.text (c.lim - pos) pos) om (gb pc (pos+blk c.text (c.lim - pos) pos) om (blk c.text (c.lim - pos) pos)::fs) (wt+1) none L:=by
 have u:((c.lim:Int) - (pos:Int)).toNat=c.lim - pos:=by simp
 have hz:¬ ((0:Nat):Int) > (c.lim:Int) - (pos:Int):=by exact n_a2 hp
 have hm:c.lim - pos<=4294967295:=by exact n_a3 U
 have hg:¬ wt+1+0 > 16777216:=by exact Nat.not_lt.mpr hw
 refine bC λ D=>?_
 obtain ⟨S,r1,X,O,V,Y⟩:=R
 refine D ?_
 rw [kB S]
 unfold pR
 have J:(st c start pc pos handed om fs wt none sn).word 0=24:=r1
 rw [J]
 refine bC λ D=>?_
 obtain ⟨B,e1⟩:=qGa (text:=c.text) Y (c.lim - pos) pos 0 ((sn.add 24).add (c.code.getD (pc+4) 0))
 refine D ?_
 refine ⟨B,?_⟩
 show (if ((fT { st c start pc pos handed om fs wt none sn with seen:=sn.add 24 } 2:Nat):Int) > (c.lim:Int) - (pos:Int) then _ else match Sre.run c.code c.text (pc+4) (min (fT { st c start pc pos handed om fs wt none sn with seen:=sn.add 24 } 3) ((c.lim:Int) - (pos:Int)).toNat) pos 0 ((sn.add 24).add (c.code.getD (pc+4) 0)) with | .error a3=>_ | .ok (n,seen)=>if n < fT { st c start pc pos handed om fs wt none sn with seen:=sn.add 24 } 2 then _ else _)=_
 rw [show fT { st c start pc pos handed om fs wt none sn with seen:=sn.add 24 } 2=0 from O,show fT { st c start pc pos handed om fs wt none sn with seen:=sn.add 24 } 3=4294967295 from V]
 rw [d0 hz,u,eM hm]
 rw [e1]
 show (if 0+blk c.text (c.lim - pos) pos < 0 then _ else _)=_
 rw [d0 (lE _),iX]
 show pF { st c start pc (pos+blk c.text (c.lim - pos) pos) handed om fs wt none sn with seen:=B } .giveBack (blk c.text (c.lim - pos) pos:Nat) {}=_
 unfold pF M.attempt
 refine (d0 (by show ¬ (wt+1+0 > 16777216); exact hg)).trans ?_
 have T:∀ s':Seen,fT { st c start pc (pos+blk c.text (c.lim - pos) pos) handed om fs wt none sn with seen:=s' } 1=11:=λ s'=>X
 show ({ st c start (pc+1+fT { st c start pc (pos+blk c.text (c.lim - pos) pos) handed om fs wt none sn with seen:=B } 1) _ _ om _ _ none B with code:=c.code }:M)=_
 rw [T]
 rfl
theorem wO {n:Nat} {b:Bool} {B D h':Nat} {u:Bool} (R:Rep c.code pc) (hw:wt < 16777216) :
  (st c start B D h' u (gb pc pos om n::fs) (wt+1) (some b) sn).step=if b=true then st c start pc pos h' om fs wt (some true) sn
   else if n=0 then st c start pc pos h' om fs wt (some false) sn else st c start (pc+12) (pos - 1) (pos - 1) om (gb pc (pos - 1) om (n - 1)::fs) (wt+1) none sn:=by
 refine bC λ O=>?_
 obtain ⟨T,X,S,J,U,V⟩:=R
 refine O ?_
 unfold M.step
 refine (d0 (by show ¬ (none:Option mG).isSome=true; decide)).trans ?_
 show oG { st c start B D h' u fs (wt+1 - (1+0)) none sn with pc:=pc,pos:=pos,outermost:=om } (gb pc pos om n) b=_
 have e:wt+1 - (1+0)=wt:=by simp
 rw [e]
 unfold oG
 cases b with
 | true=>rfl
 | false =>
  refine (zX1).trans ?_
  show (if (n:Int) - 1 < ((c.code.getD (pc+2) 0:Nat):Int) then _ else _)=_
  rw [J]
  by_cases hn:n=0
  ·rw [c7 hn,c7 (by lia)]; rfl
  ·rw [d0 hn,d0 (by lia)]
   show pF (st c start pc (pos - 1) h' om fs wt none sn) .giveBack ((n:Int) - 1) {}=_
   unfold pF M.attempt
   refine (d0 (by show ¬ (wt+1+0 > 16777216); exact Nat.not_lt.mpr hw)).trans ?_
   have L:(st c start pc (pos - 1) h' om fs wt none sn).word 1=11:=S
   rw [L]
   have hc:(n:Int) - 1=((n - 1:Nat):Int):=by lia
   rw [hc]
   rfl
end
def zKi (ws:List (Ln)):Prop:=∀ w∈ws,∃ d r,w=d::r/\qL d=false
theorem yF {text:Array Nat} {lim p:Nat} (h:qL (text.getD p 0)=true):∀ {ws:List (Ln)},zKi ws->zX text lim p ws=none
 | [],_=>rfl
 | w::r,hw=>by
  obtain ⟨d,D,rfl,hd⟩:=hw w (.head _)
  have B:(text.getD p 0 == d)=false:=by
   have:text.getD p 0≠d:=by rintro rfl; rw [h] at hd; exact zT1 hd
   simpa using this
  show (if ((decide (p < lim) && text.getD p 0 == d && vJ text lim (p+1) D) && _)=true then _ else _)=_
  rw [B]
  simp only [iD,Bool.false_and,gO,oH]
  exact yF h λ w u=>hw w (.tail _ u)
structure Pat (code:Array Nat) (ws:List (Ln)) (p0 E:Nat):Prop where
 at0:p0 < code.size/\code.getD p0 0=6/\code.getD (p0+1) 0=1
 rep:Rep code (p0+2)
 br:p0+14 < code.size/\code.getD (p0+14) 0=7
 alts:zJs code E (p0+15) ws
 tail:zQk code E
 words:zKi ws
section
variable {c:Cf} {start pc pos handed wt:Nat} {om:Bool} {fs:List fG} {sn:Seen} {ws:List (Ln)} {p0 E:Nat}
theorem qBg (h:pc < c.code.size) (B:c.code.getD pc 0=7):∃ u,(st c start pc pos handed om fs wt none sn).step=(st c start pc pos handed om fs wt none u).alternative (pc+1) {}:=by
 rw [kB h]
 unfold pR
 have hw:(st c start pc pos handed om fs wt none sn).word 0=7:=B
 rw [hw]
 exact ⟨sn.add 7,rfl⟩
theorem zOh (A c:Nat):A+(c+2)=(c+(1+A))+1:=by simp +arith
theorem zOk {n pos:Nat} (h:n+1<=pos) (k:Nat):pos - 1 - n+k=pos - (n+1)+k:=by lia
theorem zOj {n pos:Nat} (h:n+1<=pos):pos - (n+1)+n=pos - 1:=by exact n_a4 h
theorem qZt (P:Pat c.code ws p0 E):∀ (n pos handed:Nat) (sn:Seen),(∀ k,k < n->qL (c.text.getD (pos - n+k) 0)=true)->n<=pos->wt+2 < 16777216 ->
  Reach (st c start (p0+14) pos handed om (gb (p0+2) pos om n::fs) (wt+1) none sn) (λ m=>(∃ e,zX c.text c.lim pos ws=some e/\qFm c start fs wt true e m)\/(zX c.text c.lim pos ws=none/\qFm c start fs wt false 0 m)) ((n+1) * (cost ws+2)):=by
 intro n
 induction n with
 | zero =>
  intro pos handed sn U hn hw
  obtain ⟨S,e1⟩:=qBg (c:=c) (start:=start) (pos:=pos) (handed:=handed) (om:=om) (fs:=gb (p0+2) pos om 0::fs) (wt:=wt+1) (sn:=sn) P.br.1 P.br.2
  rw [show (0+1) * (cost ws+2)=(cost ws+1)+1 from mC _]
  refine Reach.step rfl ?_
  rw [e1]
  refine (yR (c:=c) (start:=start) (pos:=pos) (om:=om) (fs:=gb (p0+2) pos om 0::fs) (wt:=wt+1) P.tail ws (p0+15) (p0+14) handed S P.alts (by exact hw)).bind λ m V=>?_
  rcases V with ⟨e,B,O,X,h',D,u,rfl,T⟩ | ⟨B,O,X,h',D,u,rfl,_⟩
  ·refine Reach.step (k:=0) rfl ?_
   rw [wO P.rep (by exact w8 hw),c7 rfl]
   exact ⟨0,d7 _,.inl ⟨e,B,p0+2,pos,h',om,u,rfl,T⟩⟩
  ·refine Reach.step (k:=0) rfl ?_
   rw [wO P.rep (by exact w8 hw),zX1,c7 rfl]
   exact ⟨0,d7 _,.inr ⟨B,p0+2,pos,h',om,u,rfl,λ q=>zF1 q⟩⟩
 | succ n ih =>
  intro pos handed sn U hn hw
  obtain ⟨S,e1⟩:=qBg (c:=c) (start:=start) (pos:=pos) (handed:=handed) (om:=om) (fs:=gb (p0+2) pos om (n+1)::fs) (wt:=wt+1) (sn:=sn) P.br.1 P.br.2
  have hc:(n+1+1) * (cost ws+2)=(cost ws+(1+(n+1) * (cost ws+2)))+1:=by rw [Nat.succ_mul]; exact zOh _ _
  rw [hc]
  refine Reach.step rfl ?_
  rw [e1]
  refine (yR (c:=c) (start:=start) (pos:=pos) (om:=om) (fs:=gb (p0+2) pos om (n+1)::fs) (wt:=wt+1) P.tail ws (p0+15) (p0+14) handed S P.alts (by exact hw)).bind λ m V=>?_
  rcases V with ⟨e,B,O,X,h',D,u,rfl,T⟩ | ⟨B,O,X,h',D,u,rfl,_⟩
  ·refine (Reach.step (k:=0) rfl ?_).mono (by simp)
   rw [wO P.rep (by exact w8 hw),c7 rfl]
   exact ⟨0,d7 _,.inl ⟨e,B,p0+2,pos,h',om,u,rfl,T⟩⟩
  ·refine (Reach.step (k:=(n+1) * (cost ws+2)) rfl ?_).mono (v1 (u3 _ _))
   rw [wO P.rep (by exact w8 hw),zX1,d0 (by exact n_a5)]
   have Y:qL (c.text.getD (pos - 1) 0)=true:=by
    have:=U n (n5 n)
    rw [zOj hn] at this; exact this
   have J:=yF (lim:=c.lim) Y P.words
   have:=ih (pos - 1) (pos - 1) u (λ k hk=>by have:=U k (k9 hk); rw [zOk hn]; exact this) (dQ hn) hw
   obtain ⟨k,hk,q⟩:=this
   refine ⟨k,hk,?_⟩
   rcases q with ⟨e,L,_⟩ | ⟨_,hs⟩
   ·rw [J] at L; cases L
   ·exact .inr ⟨B,hs⟩
noncomputable def jA (text:Array Nat) (p:Nat):Bool:=p == 0 || text.getD (p - 1) 0 == 10
def qX (text:Array Nat) (lim:Nat) (ws:List (Ln)) (p:Nat):Option Nat:=if jA text p=true then zX text lim (p+blk text (lim - p) p) ws else none
theorem zJf (h:pc < c.code.size) (B:c.code.getD pc 0=6) (D:c.code.getD (pc+1) 0=1) :
  ∃ u,(st c start pc pos handed om fs wt none sn).step=if jA c.text pos=true then st c start (pc+2) pos handed om fs wt none u else st c start pc pos handed om fs wt (some false) u:=by
 rw [kB h]
 unfold pR
 have hw:(st c start pc pos handed om fs wt none sn).word 0=6:=B
 rw [hw]
 refine ⟨(sn.add 6).add 44,?_⟩
 have e1:fT { st c start pc pos handed om fs wt none sn with seen:=sn.add 6 } 1=1:=D
 show (match M.isAt { st c start pc pos handed om fs wt none sn with seen:=sn.add 6 } (fT { st c start pc pos handed om fs wt none sn with seen:=sn.add 6 } 1) with | .error J=>_ | .ok yes=>if yes=true then ({ st c start pc pos handed om fs wt none sn with seen:=(sn.add 6).add (43+fT { st c start pc pos handed om fs wt none sn with seen:=sn.add 6 } 1),pc:=pc+2 }:M) else ({ st c start pc pos handed om fs wt none sn with seen:=(sn.add 6).add (43+fT { st c start pc pos handed om fs wt none sn with seen:=sn.add 6 } 1),answer:=some false }:M))=_
 rw [e1]
 rfl
theorem qGc (P:Pat c.code ws p0 E) (hp:pos<=c.lim) (J:c.lim < 4294967295) (hw:wt+2 < 16777216) :
  Reach (st c start p0 pos handed om fs wt none sn) (λ m=>(∃ e,qX c.text c.lim ws pos=some e/\qFm c start fs wt true e m)\/(qX c.text c.lim ws pos=none/\qFm c start fs wt false 0 m)) ((c.lim+1) * (cost ws+2)+2):=by
 obtain ⟨B,e1⟩:=zJf (c:=c) (start:=start) (pos:=pos) (handed:=handed) (om:=om) (fs:=fs) (wt:=wt) (sn:=sn) P.at0.1 P.at0.2.1 P.at0.2.2
 rw [show (c.lim+1) * (cost ws+2)+2=((c.lim+1) * (cost ws+2)+1)+1 by rfl]
 refine Reach.step rfl ?_
 rw [e1]
 unfold qX
 by_cases u:jA c.text pos=true
 ·rw [c7 u,c7 u]
  obtain ⟨s2,e2⟩:=rep_step (c:=c) (start:=start) (pos:=pos) (handed:=handed) (om:=om) (fs:=fs) (wt:=wt) (sn:=B) P.rep hp J (by exact w8 hw)
  refine Reach.step rfl ?_
  rw [e2]
  have D:=zBw c.text (c.lim - pos) pos
  refine (qZt P (blk c.text (c.lim - pos) pos) (pos+blk c.text (c.lim - pos) pos) _ s2 (λ k hk=>?_) (by exact n8 _ _) hw).mono (fP _ (by exact n_a6 D))
  rw [show pos+blk c.text (c.lim - pos) pos - blk c.text (c.lim - pos) pos+k=pos+k by simp]
  exact qGu _ _ _ _ hk
 ·rw [d0 u,d0 u]
  exact ⟨0,m9 _,.inr ⟨rfl,p0,pos,handed,om,B,rfl,λ q=>zF1 q⟩⟩
end
noncomputable def ns (p0 s:Nat) (om:Bool):fG:={ wait:=.nextStart,pc:=p0,pos:=s,outermost:=om }
def jP (text:Array Nat) (lim:Nat) (ws:List (Ln)):Nat->Nat->Option (Nat×Nat)
 | 0,s=>(qX text lim ws s).map λ e=>(s,e)
 | n+1,s=>match qX text lim ws s with
  | some e=>some (s,e)
  | none=>jP text lim ws n (s+1)
def Fin (r:Option (Nat×Nat)) (m:M):Prop:=match r with
 | some (s,e)=>m.outcome=some .matched/\m.start=s/\m.handed=e/\m.marks = #[]/\m.lastmark = -1/\m.lastindex = -1
 | none=>m.outcome=some .failed
section
variable {c:Cf} {start pc pos handed wt:Nat} {om:Bool} {fs:List fG} {sn:Seen} {ws:List (Ln)} {p0 E:Nat}
theorem uW {b:Bool}:Reach (st c start pc pos handed om [] 0 (some b) sn) (λ m=>m={ st c start pc pos handed om [] 0 (some b) sn with outcome:=some (if b=true then .matched else .failed) }) 1:=by
 refine Reach.step rfl ⟨0,d7 _,?_⟩
 show M.step _=_
 unfold M.step
 refine (d0 (by show ¬ (none:Option mG).isSome=true; decide)).trans ?_
 rfl
theorem qQp (h:c.code.getD 2 0=0) (s:Nat) (first:Bool):(st c start p0 pos handed om [] 0 none sn).attemptFrom s first=st c s p0 s s first [ns p0 s first] 1 none sn:=by
 unfold M.attemptFrom
 have u:(st c start p0 pos handed om [] 0 none sn).hasFirstSet=false:=by
  have e:(c.code.getD 2 0 == 4)=false:=by rw [h]; rfl
  exact (g8 (and _) e).trans (iD _)
 rw [u]
 rfl
theorem wN {b:Bool} {s D B h':Nat} {u:Bool} (h:c.code.getD 2 0=0) :
  (st c start D B h' u [ns p0 s om] 1 (some b) sn).step=if b=true then st c start p0 s h' om [] 0 (some true) sn else if s < c.ls then st c (s+1) p0 (s+1) (s+1) false [ns p0 (s+1) false] 1 none sn else st c start p0 s h' om [] 0 (some false) sn:=by
 unfold M.step
 refine (d0 (by show ¬ (none:Option mG).isSome=true; decide)).trans ?_
 show oG (st c start p0 s h' om [] 0 none sn) (ns p0 s om) b=_
 unfold oG
 cases b with
 | true=>rfl
 | false =>
  show (if s < c.ls then (st c start p0 s h' om [] 0 none sn).attemptFrom (s+1) false else st c start p0 s h' om [] 0 (some false) sn)=(if s < c.ls then _ else _)
  by_cases hs:s < c.ls
  ·rw [c7 hs,c7 hs,qQp h]
  ·rw [d0 hs,d0 hs]
theorem zOg (B K:Nat):B+(K+4)=(K+2)+((1+B)+1):=by simp +arith
theorem qMv (P:Pat c.code ws p0 E) (h:c.code.getD 2 0=0) (V:c.lim < 4294967295) (U:c.ls<=c.lim):∀ (n s:Nat) (om:Bool) (sn:Seen),s+n=c.ls ->
  Reach (st c s p0 s s om [ns p0 s om] 1 none sn) (Fin (jP c.text c.lim ws n s)) ((n+1) * ((c.lim+1) * (cost ws+2)+4)):=by
 intro n
 induction n with
 | zero =>
  intro s om sn hs
  have D:=qGc (c:=c) (start:=s) (pos:=s) (handed:=s) (om:=om) (fs:=[ns p0 s om]) (wt:=1) (sn:=sn) P (by simp_all) V (by simp)
  rw [show (0+1) * ((c.lim+1) * (cost ws+2)+4)=((c.lim+1) * (cost ws+2)+2)+(1+1) from mC _]
  refine D.bind λ m S=>?_
  rcases S with ⟨e,B,L,T,h',J,u,rfl,O⟩ | ⟨B,L,T,h',J,u,rfl,_⟩
  ·refine Reach.step rfl ?_
   rw [wN h,c7 rfl]
   obtain ⟨k,hk,q⟩:=uW (c:=c) (start:=s) (pc:=p0) (pos:=s) (handed:=h') (om:=om) (sn:=u) (b:=true)
   refine ⟨k,hk,?_⟩
   rw [q]
   show Fin ((qX c.text c.lim ws s).map λ e=>(s,e)) _
   rw [B]
   exact ⟨rfl,rfl,O rfl,rfl,rfl,rfl⟩
  ·refine Reach.step rfl ?_
   rw [wN h,zX1,d0 (by simp_all)]
   obtain ⟨k,hk,q⟩:=uW (c:=c) (start:=s) (pc:=p0) (pos:=s) (handed:=h') (om:=om) (sn:=u) (b:=false)
   refine ⟨k,hk,?_⟩
   rw [q]
   show Fin ((qX c.text c.lim ws s).map λ e=>(s,e)) _
   rw [B]
   exact rfl
 | succ n X =>
  intro s om sn hs
  have D:=qGc (c:=c) (start:=s) (pos:=s) (handed:=s) (om:=om) (fs:=[ns p0 s om]) (wt:=1) (sn:=sn) P (by exact m_a1 U hs) V (by simp)
  have hc:(n+1+1) * ((c.lim+1) * (cost ws+2)+4)=((c.lim+1) * (cost ws+2)+2)+((1+(n+1) * ((c.lim+1) * (cost ws+2)+4))+1):=by rw [Nat.succ_mul (n+1)]; exact zOg _ _
  rw [hc]
  refine D.bind λ m S=>?_
  rcases S with ⟨e,B,L,T,h',J,u,rfl,O⟩ | ⟨B,L,T,h',J,u,rfl,_⟩
  ·refine Reach.step rfl ?_
   rw [wN h,c7 rfl]
   obtain ⟨k,hk,q⟩:=uW (c:=c) (start:=s) (pc:=p0) (pos:=s) (handed:=h') (om:=om) (sn:=u) (b:=true)
   refine ⟨k,by exact d5 hk (n4 1 _),?_⟩
   rw [q]
   show Fin (match qX c.text c.lim ws s with | some e=>some (s,e) | none=>jP c.text c.lim ws n (s+1)) _
   rw [B]
   exact ⟨rfl,rfl,O rfl,rfl,rfl,rfl⟩
  ·refine Reach.step rfl ?_
   rw [wN h,zX1,c7 (by exact m_a2 hs)]
   obtain ⟨k,hk,q⟩:=X (s+1) false u (by exact (l9 _ 1 _).trans hs)
   refine ⟨k,by exact iG hk,?_⟩
   show Fin (match qX c.text c.lim ws s with | some e=>some (s,e) | none=>jP c.text c.lim ws n (s+1)) _
   rw [B]
   exact q
end
def zM (text:Array Nat) (ws:List (Ln)) (pos lim:Nat):Option (Nat×Nat) :=
 if lim < pos+3 then none else jP text lim ws (lim - 2 - pos) pos
theorem qFg {code text:Array Nat} {ws:List (Ln)} {E pos lim:Nat} (P:Pat code ws 5 E) (J:code.getD 0 0=14) (L:code.getD 1 0=4) (h2:code.getD 2 0=0) (h3:code.getD 3 0=3) (B:lim < 4294967295) :
  Reach (forSearch code text 0 pos lim false) (Fin (zM text ws pos lim)) ((lim+1) * ((lim+1) * (cost ws+2)+4)+1):=by
 have D:header code=(3,5):=by unfold header; rw [J]; show (code.getD 3 0,1+code.getD 1 0)=_; rw [h3,L]
 have e0:∀ hd:Nat×Nat,header code=hd->forSearch code text 0 pos lim false=if (decide (pos > lim) || decide (lim - pos < hd.1))=true then st ⟨code,text,lim,0⟩ pos hd.2 pos pos true [] 0 (some false) (if (hd.2 == 0)=true then {} else ({}:Seen).add 14)
   else (st ⟨code,text,lim,if (decide (hd.1 > 1) && !(hd.2 != 0 && (code.getD 2 0 &&& 5) != 0))=true then max pos (lim - (hd.1 - 1)) else lim⟩ pos hd.2 pos pos true [] 0 none (if (hd.2 == 0)=true then {} else ({}:Seen).add 14)).attemptFrom pos true:=by
  intro hd e
  subst e
  rfl
 rw [e0 _ D]
 unfold zM
 dsimp only
 by_cases hs:lim < pos+3
 ·rw [c7 (by simp; exact m_a3 hs),c7 hs]
  obtain ⟨k,hk,q⟩:=uW (c:=⟨code,text,lim,0⟩) (start:=pos) (pc:=5) (pos:=pos) (handed:=pos) (om:=true) (sn:=if ((5:Nat) == 0)=true then {} else ({}:Seen).add 14) (b:=false)
  refine ⟨k,by exact iG hk,?_⟩
  rw [q]; rfl
 ·rw [d0 (by simp; exact m_a4 hs),d0 hs]
  have u:(if (decide ((3:Nat) > 1) && !((5:Nat) != 0 && (code.getD 2 0 &&& 5) != 0))=true then max pos (lim - (3 - 1)) else lim)=lim - 2:=by
   rw [h2]
   refine (c7 (by decide)).trans ?_
   exact m_a5 hs
  rw [u]
  rw [qQp (c:=⟨code,text,lim,lim - 2⟩) h2]
  have:=qMv (c:=⟨code,text,lim,lim - 2⟩) P h2 B (by show lim - 2<=lim; exact lO _ 2) (lim - 2 - pos) pos true (if ((5:Nat) == 0)=true then {} else ({}:Seen).add 14) (by show pos+(lim - 2 - pos)=lim - 2; exact n_a7 hs)
  refine this.mono ?_
  refine d5 (fP _ (?_:lim - 2 - pos+1<=lim+1)) (dY _)
  exact n_a8
end Mine.Lake.Re
namespace Mine.Lake.Re
open PySem PySem.Sre PySem.Builtin.Re
section
variable {M':Model} {A:n6} {E:Pv} {s:d6}
theorem end_ok {m:M} {r:Option (Nat×Nat)} {k:Nat} (h:Reach m (Fin r) k) (hk:k<=4 * 2 ^ 64) {Q:Option M->d6->Prop}
  (hs:∀ u p e,r=some (p,e)->u.start=p->u.handed=e->u.marks = #[]->u.lastmark = -1->u.lastindex = -1->Q (some u) s) (hn:r=none->Q none s):wpAny M' A (reRunToEnd m) Q E s:=by
 refine bC λ D=>?_
 obtain ⟨n,J,B⟩:=h
 refine D ?_
 unfold reRunToEnd
 have L:(r7 n m).outcome.isSome=true:=by
  cases r with
  | none=>have:(r7 n m).outcome=some .failed:=B; rw [this]; rfl
  | some x=>have:(r7 n m).outcome=some .matched:=B.1; rw [this]; rfl
 refine d3 (qEc (2 ^ 64) m n L (by exact d5 J hk) (by decide) ?_)
 refine d3 (uC _ ?_)
 cases r with
 | none =>
  have e:(r7 n m).outcome=some .failed:=B
  rw [e]
  exact d9 (hn rfl)
 | some x =>
  refine bC λ D=>?_
  obtain ⟨p,q⟩:=x
  obtain ⟨e,O,h2,h3,h4,h5⟩:=B
  refine D ?_
  rw [e]
  exact d9 (hs _ p q rfl O h2 h3 h4 h5)
end
noncomputable def code1:Array Nat:=#[14,4,0,3,4294967295,6,1,24,11,0,4294967295,13,6,16,32,16,9,0,1,7,13,16,119,16,104,16,105,16,108,16,101,15,173,11,16,101,16,108,16,115,16,101,15,162,9,16,100,16,101,16,102,15,153,15,16,114,16,101,16,116,16,117,16,114,16,110,15,138,15,16,97,16,115,16,115,16,101,16,114,16,116,15,123,13,16,98,16,114,16,101,16,97,16,107,15,110,13,16,99,16,108,16,97,16,115,16,115,15,97,19,16,99,16,111,16,110,16,116,16,105,16,110,16,117,16,101,15,78,11,16,101,16,108,16,105,16,102,15,67,9,16,116,16,114,16,121,15,58,15,16,101,16,120,16,99,16,101,16,112,16,116,15,43,13,16,114,16,97,16,105,16,115,16,101,15,30,15,16,105,16,109,16,112,16,111,16,114,16,116,15,15,13,16,121,16,105,16,101,16,108,16,100,15,2,0,6,10,1]
noncomputable def words1:List (Ln):=[[119,104,105,108,101],[101,108,115,101],[100,101,102],[114,101,116,117,114,110],[97,115,115,101,114,116],[98,114,101,97,107],[99,108,97,115,115],[99,111,110,116,105,110,117,101],[101,108,105,102],[116,114,121],[101,120,99,101,112,116],[114,97,105,115,101],[105,109,112,111,114,116],[121,105,101,108,100]]
noncomputable def qKp (code:Array Nat):Nat->Ln->Bool
 | _,[]=>true
 | pc,d::r=>decide (pc < code.size) && code.getD pc 0 == 16 && code.getD (pc+1) 0 == d && qKp code (pc+2) r
theorem qKo {code:Array Nat}:∀ {pc:Nat} {w:Ln},qKp code pc w=true->zJq code pc w
 | _,[],_=>trivial
 | pc,d::r,h=>by
  replace h:(decide (pc < code.size) && code.getD pc 0 == 16 && code.getD (pc+1) 0 == d && qKp code (pc+2) r)=true:=h
  simp only [d8,j4,j8] at h
  exact ⟨h.1.1.1,h.1.1.2,h.1.2,qKo h.2⟩
def zCf (code:Array Nat) (E:Nat):Nat->List (Ln)->Bool
 | alt,[]=>code.getD alt 0 == 0
 | alt,w::r=>code.getD alt 0 == 2 * w.length+3 && qKp code (alt+1) w && decide (alt+1+2 * w.length < code.size) && code.getD (alt+1+2 * w.length) 0 == 15 && alt+1+2 * w.length+1+code.getD (alt+1+2 * w.length+1) 0 == E && zCf code E (alt+2 * w.length+3) r
theorem qLv {code:Array Nat} {E:Nat}:∀ {alt:Nat} {ws:List (Ln)},zCf code E alt ws=true->zJs code E alt ws
 | alt,[],h=>by
  have h':(code.getD alt 0 == 0)=true:=h
  exact (beq_iff_eq.mp h':code.getD alt 0=0)
 | alt,w::r,h=>by
  replace h:(code.getD alt 0 == 2 * w.length+3 && qKp code (alt+1) w && decide (alt+1+2 * w.length < code.size) && code.getD (alt+1+2 * w.length) 0 == 15 && alt+1+2 * w.length+1+code.getD (alt+1+2 * w.length+1) 0 == E && zCf code E (alt+2 * w.length+3) r)=true:=h
  simp only [d8,j4,j8] at h
  obtain ⟨⟨⟨⟨⟨u,h2⟩,h3⟩,h4⟩,h5⟩,B⟩:=h
  exact ⟨u,qKo h2,h3,h4,h5,qLv B⟩
theorem zQp:Pat code1 words1 5 205 where
 at0:=by decide +kernel
 rep:=⟨by decide +kernel,by decide +kernel,by decide +kernel,by decide +kernel,by decide +kernel,by decide +kernel,by decide +kernel,by decide +kernel,by decide +kernel,by decide +kernel,by decide +kernel,by decide +kernel⟩
 br:=by decide +kernel
 alts:=qLv (by decide +kernel)
 tail:=⟨by decide +kernel,by decide +kernel,by decide +kernel,by decide +kernel,by decide +kernel⟩
 words:=λ w hw=>by
  have:words1.all (λ w=>match w with | d::_=>!qL d | []=>false)=true:=by decide +kernel
  have:=List.all_eq_true.mp this w hw
  cases w with
  | nil=>cases this
  | cons d r=>exact ⟨d,r,rfl,by simpa using this⟩
theorem zDx {M':Model} {A:n6} {E:Pv} {s:d6} {text:Array Nat} {pos lim:Nat} (B:lim<=g0) {Q:Option M->d6->Prop}
  (hs:∀ u p e,zM text words1 pos lim=some (p,e)->u.start=p->u.handed=e->u.marks = #[]->u.lastmark = -1->u.lastindex = -1->Q (some u) s) (hn:zM text words1 pos lim=none->Q none s) :
  wpAny M' A (reRunToEnd (forSearch code1 text 0 pos lim false)) Q E s:=by
 have J:g0=16777216:=by decide
 refine end_ok (qFg zQp (by decide +kernel) (by decide +kernel) (by decide +kernel) (by decide +kernel) (by exact n_a9 B J)) ?_ hs hn
 have hc:cost words1=127:=by decide +kernel
 rw [hc]
 have D:(lim+1) * (127+2)+4<=16777217 * 129+4:=by lia
 have h2:=Nat.mul_le_mul (show lim+1<=16777217 by simp_all) D
 have h3:16777217 * (16777217 * 129+4)+1<=4 * 2 ^ 64:=by decide
 lia
end Mine.Lake.Re
namespace Mine.Lake.Re
open PySem PySem.Sre PySem.Builtin.Re PyProof.Rows
theorem qIr:entryFor table "re.Pattern.search" = some Builtin.«re.Pattern.search»:=eS (by kernel_rfl)
theorem qHq {as:Args}:(Code.builtin "re.Pattern.search" as).quiet=true:=Code.quiet_builtin _ (by decide +kernel)
theorem qMr:gI "re.Pattern.search" = some ⟨.keywords,"Pattern.search", "search", .self,[⟨"string", .posOrKw,true⟩,⟨"pos", .posOrKw,false⟩,⟨"endpos", .posOrKw,false⟩]⟩:=by kernel_rfl
theorem qKt:builtinKind "re.Pattern.search" = some .method:=by kernel_rfl
theorem qIy {self:g9} {x:Str} {t:Tok} {is:List Int} {rest:Lv} (h:IntArgs is rest) :
  Bind.checkArgs "re.Pattern.search" ⟨.keywords,s!"{Bind.lastOf "re.Pattern"}.{Bind.lastOf "re.Pattern.search"}", "search", .self,[⟨"string", .posOrKw,true⟩,⟨"pos", .posOrKw,false⟩,⟨"endpos", .posOrKw,false⟩]⟩ ⟨self::.str x t::rest,[]⟩=pure ():=by
 cases h <;> first | rfl | kernel_rfl
section
variable {prog:gA} {w:World} {A:n6} {E:Pv} {s:d6}
theorem qJa {u:Addr} {x:Str} {t:Tok} {is:List Int} {rest:Lv} {code:Array Nat} {M:Model} (P:PatAt s.heap u code) (h:IntArgs is rest) {Q:Unit->d6->Prop} (J:Q () s) :
  wpAny M A (checkBoundCall "re.Pattern.search" ⟨.ref u::.str x t::rest,[]⟩) Q E s:=by
 refine bC λ L=>?_
 obtain ⟨op,fs,O,D,h2,h3,_⟩:=P.at_
 refine L ?_
 have B:s.TypeIs (.ref u) "re.Pattern" := ⟨op,D,h2⟩
 unfold checkBoundCall
 rw [qMr,qKt]
 dsimp only
 rw [zX1]
 refine d3 (iM (b:=false) B (by rw [eR]; kernel_rfl) ?_)
 rw [d0 (by decide +kernel)]
 refine d3 (d3 ?_)
 unfold loadHead
 refine fA D (d9 ?_)
 rw [h3]
 rw [d0 (λ q=>zF1 q)]
 refine d3 (wpAny_typeOf B ?_)
 exact v6 (qIy h) J
end
section
variable {prog:gA} {w:World} {A:n6} {E:Pv} {s:d6} {M:Model}
theorem qJq {u:Addr} {x:Str} {t:Tok} {is:List Int} {rest:Lv} (P:PatAt s.heap u code1) (h:IntArgs is rest) (hx:x.length<=g0) (B : -(2 ^ 63)<=zL is) (D:zL is < 2 ^ 63) (L : -(2 ^ 63)<=zK is) (J:zK is < 2 ^ 63) {Q:PySem.Fin->d6->Prop}
  (hs:∀ p e,zM x.cps words1 (min (zL is).toNat x.cps.size) (min (zK is).toNat x.cps.size)=some (p,e) ->
   Q (.done (.ret (.ref (s.heap.objs.size+1)))) { s with heap:=(s.heap.push (jW p e)).push (vY x t u s.heap.objs.size (min (zL is).toNat x.cps.size) (min (zK is).toNat x.cps.size)) })
  (hn:zM x.cps words1 (min (zL is).toNat x.cps.size) (min (zK is).toNat x.cps.size)=none->Q (.done (.ret .none)) s) :
  wpAny M A (Builtin.«re.Pattern.search» ⟨.ref u::.str x t::rest,[]⟩) Q E s:=by
 unfold Builtin.«re.Pattern.search»
 refine d3 (qRp P h B D L J ?_)
 unfold reAnswer
 have O:x.cps.size<=g0:=hx
 refine d3 (zDx (by show min (zK is).toNat x.cps.size<=g0; lia -abstractProof) (λ T p e hr S h2 h3 h4 h5=>?_) λ hr=>?_)
 ·dsimp only
  exact d3 (qKj S h2 h5 (d9 (hs p e hr)))
 ·exact d9 (hn hr)
theorem qLo {b u:Addr} {x:Str} {t:Tok} {is:List Int} {rest:Lv} (O:s.heap.get? b=some (boundObj "re.Pattern.search" u)) (P:PatAt s.heap u code1) (h:IntArgs is rest) (hx:x.length<=g0) (B : -(2 ^ 63)<=zL is) (D:zL is < 2 ^ 63) (L : -(2 ^ 63)<=zK is) (J:zK is < 2 ^ 63) {Q:Pv}
  (hs:∀ p e,zM x.cps words1 (min (zL is).toNat x.cps.size) (min (zK is).toNat x.cps.size)=some (p,e) ->
   Q (.ref (s.heap.objs.size+1)) { s with heap:=(s.heap.push (jW p e)).push (vY x t u s.heap.objs.size (min (zL is).toNat x.cps.size) (min (zK is).toNat x.cps.size)) })
  (hn:zM x.cps words1 (min (zL is).toNat x.cps.size) (min (zK is).toNat x.cps.size)=none->Q .none s) :
  wpAny (model prog w) A (call (.ref b) (.str x t::rest)) Q E s:=by
 refine iN (codeAny_of_tree ?_)
 show wpAny _ A.in1 (callAny (.ref b) ⟨.str x t::rest,[]⟩) _ _ s
 refine d3 (fA O ?_)
 show wpAny _ _ (if (Value.type "builtin_function_or_method" == Value.type "method" || Value.type "builtin_function_or_method" == Value.type "builtin_function_or_method" || Value.type "builtin_function_or_method" == Value.type "method-wrapper")=true then _ else _) _ _ _
 rw [c7 (by decide)]
 show wpAny _ _ (if (Value.type "builtin_function_or_method" != Value.type "method")=true then _ else _) _ _ _
 rw [c7 (by decide)]
 refine d3 (qJa P h ?_)
 refine d3 (d9 (d9 ?_))
 refine ⟨qHq,nP qIr (qJq P h hx B D L J ?_ ?_)⟩
 ·intro p e hr; exact hs p e hr
 ·intro hr; exact hn hr
end
theorem qCy:Slot "re.Match" "start" "re.Match.start" :=
 .of (owner:="re.Match") (n:="start") (by rw [bI,n9]; kernel_rfl) (by decide +kernel) (by decide +kernel) (by decide +kernel)
  (by first | exact .inl (by decide +kernel) | exact .inr (by decide +kernel)) (by rw [eR]; kernel_rfl)
theorem qMa:typeOf (.builtin "re.Match.start")=pure (.type "method_descriptor"):=by show builtinType _=_; rw [builtinType_eq_fast]; kernel_rfl
theorem qLh:entryFor table "re.Match.start" = some Builtin.«re.Match.start»:=eS (by kernel_rfl)
theorem qPd (a:g9):argsOk "re.Match.start" ⟨[a],[]⟩:=by
 unfold argsOk; rw [signature?_of (id:="re.Match.start") (n:=['t','r','a','t','s']) (o:=['h','c','t','a','M','.','e','r']) (by kernel_rfl) wA]; kernel_rfl
theorem qFx:Slot "re.Match" "span" "re.Match.span" :=
 .of (owner:="re.Match") (n:="span") (by rw [bI,n9]; kernel_rfl) (by decide +kernel) (by decide +kernel) (by decide +kernel)
  (by first | exact .inl (by decide +kernel) | exact .inr (by decide +kernel)) (by rw [eR]; kernel_rfl)
theorem qRl:typeOf (.builtin "re.Match.span")=pure (.type "method_descriptor"):=by show builtinType _=_; rw [builtinType_eq_fast]; kernel_rfl
theorem qOo:entryFor table "re.Match.span" = some Builtin.«re.Match.span»:=eS (by kernel_rfl)
theorem qVh (a:g9):argsOk "re.Match.span" ⟨[a],[]⟩:=by
 unfold argsOk; rw [signature?_of (id:="re.Match.span") (n:=['n','a','p','s']) (o:=['h','c','t','a','M','.','e','r']) (by kernel_rfl) wA]; kernel_rfl
section
variable {M:Model} {A:n6} {E:Pv} {s:d6} {prog:gA} {w:World}
theorem qMe {a p e:Nat} (X:MatchAt s.heap a p e) {Q:PySem.Fin->d6->Prop} (u:Q (.done (.ret (.int p s.toks))) { s with toks:=s.toks+1 }):wpAny M A (Builtin.«re.Match.start» ⟨[.ref a],[]⟩) Q E s:=by
 unfold Builtin.«re.Match.start»
 refine d3 (qNr X λ x hx=>?_)
 dsimp only
 rw [hx]
 unfold retInt
 exact d3 (mF (d9 u))
theorem qRn {a p e:Nat} (X:MatchAt s.heap a p e) {Q:PySem.Fin->d6->Prop}
  (u:Q (.done (.ret (.ref s.heap.objs.size))) { s with heap:=s.heap.push { cls:=.type "tuple", data:=.seq #[.int p s.toks,.int e (s.toks+1)] },toks:=s.toks+1+1 }):wpAny M A (Builtin.«re.Match.span» ⟨[.ref a],[]⟩) Q E s:=by
 unfold Builtin.«re.Match.span»
 refine d3 (qNr X λ x hx=>?_)
 dsimp only
 rw [hx]
 refine d3 (mF (d3 (mF (d3 (wpAny_newTuple ?_ (by show (2:Nat)<=g0; decide))))))
 exact d9 u
theorem qOw {a p e:Nat} (X:MatchAt s.heap a p e) {Q:Pv} (D:Q (.int p s.toks) { s with toks:=s.toks+1 }):wpAny (model prog w) A (call (.builtin "re.Match.start") [.ref a]) Q E s:=by
 refine bC λ J=>?_
 obtain ⟨o,ot,vs,items,L,O,t,u,B,h2,_⟩:=X.there
 refine J ?_
 refine eT qCy ⟨o,B,h2⟩ qLh ?_ (qPd _)
 exact qMe X ⟨_,rfl,D⟩
theorem qUz {a p e:Nat} (X:MatchAt s.heap a p e) {Q:Pv}
  (D:Q (.ref s.heap.objs.size) { s with heap:=s.heap.push { cls:=.type "tuple", data:=.seq #[.int p s.toks,.int e (s.toks+1)] },toks:=s.toks+1+1 }):wpAny (model prog w) A (call (.builtin "re.Match.span") [.ref a]) Q E s:=by
 refine bC λ J=>?_
 obtain ⟨o,ot,vs,items,L,O,t,u,B,h2,_⟩:=X.there
 refine J ?_
 refine eT qFx ⟨o,B,h2⟩ qOo ?_ (qVh _)
 exact qRn X ⟨_,rfl,D⟩
end
end Mine.Lake.Re
namespace Mine.Lake
open PySem PySem.W PyProof.Rows
inductive X where
 | none
 | bool (b:Bool)
 | int (i:Int)
 | str (s:Str)
 | var (x:Str)
 | cv (x:Str)
 | glob (x:Str)
 | bin (op:Operator) (a b:X)
 | neg (a:X)
 | not (a:X)
 | cmp (op:CmpOp) (a b:X)
 | and (a b:X)
 | or (a b:X)
 | ite (c a b:X)
 | idx (a i:X)
 | slc (a lo hi:X)
 | attr (o:X) (f:Str)
 | list (es:X)
 | tup (es:X)
 | nil
 | cons (a b:X)
 | call (f as:X)
 | meth (o:X) (m:Str) (as:X)
 | comp (elt:X) (x:Str) (it cond:X)
 | lam (ps:List Str) (b:X)
 | named (x:Str) (e:X)
 | newl (es:X)
inductive S where
 | brk
 | expr (e:X)
 | asg (x:Str) (e:X)
 | own (x:Str) (e:X)
 | asgC (x:Str) (e:X)
 | setA (o:X) (f:Str) (e:X)
 | ret (e:X)
 | ite (c:X) (a b:S)
 | loop (n:Nat) (c:X) (b o:S)
 | each (x:Str) (it:X) (b:S)
 | assert (e:X)
 | nil
 | seq (a b:S)
 | asg2 (x y:Str) (e:X)
 | cont
 | ret0
 | asgs (x y:Str) (e:X)
 | ownA (o:X) (f x:Str) (e:X)
 | aug (x:Str) (e:X)
 | asg2C (x y:Str) (e:X)
 | sq (x tn:Str) (ps:List (Str×Str)) (b:S)
noncomputable def zR (x:Str):Bool:=x != ("__debug__" : Str) && x != ("__classdict__" : Str)
def qRh (e:Expr):Prop:=∀ (attr:Str) (env:Env) (u:Sem g9),attributeBase e attr env u=u
noncomputable def qCf (e:Expr):Bool:=match e with
 | .Slice ..=>true
 | _=>false
set_option backward.match.sparseCases true in
noncomputable def qDu (e:Expr):Bool:=match e with
 | .Starred ..=>true
 | _=>false
noncomputable def kY (e:Expr):Bool:=match e with
 | .Set ..=>true
 | _=>false
def qHg (a b:Expr):Bool:=!qDu a && !qDu b && !(foldedForSure 8 a && foldedForSure 8 b) && !(constantsAlone 8 a && constantsAlone 8 b)
noncomputable def xV (e:Expr):Bool:=match e with
 | .ListComp .. | .SetComp .. | .DictComp ..=>true
 | _=>false
inductive Ph where
 | e (x:Expr)
 | none
 | es (l:List Expr)
 | an (l:List Expr)
 | or (l:List Expr)
 | cond (l:List Expr)
noncomputable def Ph.ofO:Option Expr->Ph
 | some y=>.e y
 | Option.none=>.none
noncomputable def Ph.ofAnd:List Expr->Ph
 | [y]=>.e y
 | l=>.an l
noncomputable def Ph.ofOr:List Expr->Ph
 | [y]=>.e y
 | l=>.or l
noncomputable def Ph.ofCond:List Expr->Ph
 | [y]=>.e y
 | l=>.cond l
noncomputable def kQ (x:Str) (sc cs:Scope):Bool:=cs.kind == .function && cs.names.lookup x == some .local &&
 cs.names.all λ p=>p.2 != .cell && (p.2 != .local || cs.names.lookup p.1 == some .local) && (p.2 != .free || sc.names.lookup p.1 == some .cell || sc.names.lookup p.1 == some .free)
noncomputable def distinct:List Str->Bool
 | []=>true
 | x::r=>r.all (λ y=>y != x) && distinct r
noncomputable def keyed (names:List (Str×s9)):Bool:=match names with
 | []=>true
 | (x,_)::r=>r.all (λ p=>p.1 != x) && keyed r
structure One (a:Arguments) (ps:List Str):Prop where
 dflt:∀ env,defaultsOf a env=([],[])
 bind:∀ fd:FuncData,fd.params=a->fd.defaults=.none->∀ cargs:Lv,cargs.length=ps.length->bindArgs fd ⟨cargs,[]⟩=pure (ps.zip cargs)
theorem qNz {α:Type} {l:List α} (h:l.length=1):∃ a,l=[a]:=List.length_eq_one_iff.mp h
theorem qZe {α:Type} {l:List α} (h:l.length=2):∃ a b,l=[a,b]:=by
 cases l with
 | nil=>cases h
 | cons a r=>obtain ⟨b,rfl⟩:=qNz (fZ h); exact ⟨a,b,rfl⟩
theorem zRd {α:Type} {l:List α} (h:l.length=3):∃ a b c,l=[a,b,c]:=by
 cases l with
 | nil=>cases h
 | cons a r=>obtain ⟨b,c,rfl⟩:=qZe (fZ h); exact ⟨a,b,c,rfl⟩
theorem zI {an:Option Expr} {p:Pos}:One ⟨[],[⟨"place", an,p⟩],Option.none,[],[],Option.none,[]⟩ ["place"] :=
 ⟨λ q=>rfl,λ D u h2 cargs B=>by
  obtain ⟨c,rfl⟩:=qNz B
  cases D
  simp only at u h2
  subst u h2
  rfl⟩
def wB (ps:List Str) (ls:Scope):Bool:=ls.kind == .function && !ls.isCoroutine && !ls.isGenerator && keyed ls.names && distinct ps && ps.all (λ x=>ls.names.lookup x == some .local) && ls.names.all λ p=>p.2 != .cell
def uL (ps:List Str) (sc ls:Scope):Bool:=wB ps ls && ls.names.all λ p=>p.2 != .free || sc.names.lookup p.1 == some .cell || sc.names.lookup p.1 == some .free
class inductive Ok :X->Scope->Ph->Prop
 | none {sc k p}:Ok .none sc (.e (.Constant .none k p))
 | none' {sc}:Ok .none sc .none
 | bool {sc b k p}:Ok (.bool b) sc (.e (.Constant (.bool b) k p))
 | tt {sc}:Ok (.bool true) sc (.cond [])
 | int {sc i k p}:Ok (.int i) sc (.e (.Constant (.int i) k p))
 | str {sc k p} {s:Str}:(decide (s.length<=g0) && t5 s)=true->Ok (.str s) sc (.e (.Constant (.str s) k p))
 | var {sc x p}:(zR x && sc.names.lookup x == some .local)=true->Ok (.var x) sc (.e (.Name x p))
 | cv {sc x p}:(zR x && (sc.names.lookup x == some .cell || sc.names.lookup x == some .free))=true->Ok (.cv x) sc (.e (.Name x p))
 | glob {sc x p}:(zR x && sc.names.lookup x == some .globalImplicit)=true->Ok (.glob x) sc (.e (.Name x p))
 | bin {sc op a b l r p}:Ok a sc (.e l)->Ok b sc (.e r)->Ok (.bin op a b) sc (.e (.BinOp l op r p))
 | neg {sc a e p}:Ok a sc (.e e)->Ok (.neg a) sc (.e (.UnaryOp .USub e p))
 | not {sc a e p}:Ok a sc (.e e)->Ok (.not a) sc (.e (.UnaryOp .Not e p))
 | cmp {sc op a b l r p}:Ok a sc (.e l)->Ok b sc (.e r)->behindInMarks op r=false->Ok (.cmp op a b) sc (.e (.Compare l [op] [r] p))
 | and {sc a b e es p}:Ok a sc (.e e)->Ok b sc (.ofAnd es)->Ok (.and a b) sc (.e (.BoolOp .And (e::es) p))
 | and' {sc a b e es}:Ok a sc (.e e)->Ok b sc (.ofAnd es)->Ok (.and a b) sc (.an (e::es))
 | or {sc a b e es p}:Ok a sc (.e e)->Ok b sc (.ofOr es)->Ok (.or a b) sc (.e (.BoolOp .Or (e::es) p))
 | or' {sc a b e es}:Ok a sc (.e e)->Ok b sc (.ofOr es)->Ok (.or a b) sc (.or (e::es))
 | ite {sc c a b t x y p}:Ok c sc (.e t)->Ok a sc (.e x)->Ok b sc (.e y)->Ok (.ite c a b) sc (.e (.IfExp t x y p))
 | idx {sc a i v sl p}:Ok a sc (.e v)->Ok i sc (.e sl)->qCf sl=false->Ok (.idx a i) sc (.e (.Subscript v sl p))
 | slc {sc a lo hi v l h p q}:Ok a sc (.e v)->Ok lo sc (.ofO l)->Ok hi sc (.ofO h)->Ok (.slc a lo hi) sc (.e (.Subscript v (.Slice l h Option.none q) p))
 | attr {sc o f e p}:Ok o sc (.e e)->qRh e->Ok (.attr o f) sc (.e (.Attribute e f p))
 | list {sc es l p}:Ok es sc (.es l)->Ok (.list es) sc (.e (.List l p))
 | tup {sc es l k p}:Ok es sc (.es l)->Ok (.tup es) sc (.e (.Tuple l k p))
 | nil {sc}:Ok .nil sc (.es [])
 | cons {sc a b e r}:Ok a sc (.e e)->Ok b sc (.es r)->qDu e=false->Ok (.cons a b) sc (.es (e::r))
 | call {sc f as n p l q}:Ok f sc (.e (.Name n p))->Ok as sc (.es l)->Ok (.call f as) sc (.e (.Call (.Name n p) l [] q))
 | meth {sc o m as e ap l q}:Ok o sc (.e e)->Ok as sc (.es l)->qRh e->(decide (l.length < 30) && ap.endLine == q.line)=true->Ok (.meth o m as) sc (.e (.Call (.Attribute e m ap) l [] q))
 | comp {sc elt x it cond e yp i ifs cs p}:Ok it sc (.e i)->Ok elt cs (.e e)->Ok cond cs (.ofCond ifs)->kQ x sc cs=true->kY i=false->Ok (.comp elt x it cond) sc (.e (.ListComp e [⟨.Name x yp,i,ifs,0⟩] cs p))
 | lam {sc ps b a body ls p}:One a ps->Ok b ls (.e body)->uL ps sc ls=true->Ok (.lam ps b) sc (.e (.Lambda a body ls p))
 | named {sc x e v q p}:sc.names.lookup x=some .local->Ok e sc (.e v)->Ok (.named x e) sc (.e (.NamedExpr (.Name x q) v p))
 | newl {sc es l p}:Ok es sc (.es l)->Ok (.newl es) sc (.e (.List l p))
noncomputable def qYy (a b:Str):Bool:=(eU ⟨#[]⟩ a 0 0 1).isEmpty && !(a == b)
class inductive Reps  (x:Str):List (Str×Str)->List Stmt->List Stmt->Prop
 | nil {r}:Reps x [] r r
 | cons {a b ps q q2 ap p1 p2 r p k1 k2 l l'}:(qYy a b && decide (a.length<=g0) && decide (b.length<=g0) && ap.endLine == r.line)=true->Reps x ps l l' ->
  Reps x ((a,b)::ps) (.Assign [.Name x q] (.Call (.Attribute (.Name x q2) "replace" ap) [.Constant (.str a) k1 p1,.Constant (.str b) k2 p2] [] r) p::l) l'
inductive Pt where
 | s (x:Stmt)
 | l (x:List Stmt)
class inductive TieS :S->Scope->Pt->Prop
 | brk {sc p}:TieS .brk sc (.s (.Break p))
 | expr {sc e v p}:Ok e sc (.e v)->xV v=false->TieS (.expr e) sc (.s (.Expr v p))
 | asgK {sc x elt y it cond q e yp i ifs cs lp p}:sc.names.lookup x=some .local->Ok it sc (.e i)->Ok elt cs (.e e)->Ok cond cs (.ofCond ifs)->kQ y sc cs=true->kY i=false->TieS (.asg x (.comp elt y it cond)) sc (.s (.Assign [.Name x q] (.ListComp e [⟨.Name y yp,i,ifs,0⟩] cs lp) p))
 | asgCK {sc x elt y it cond q e yp i ifs cs lp p}:sc.names.lookup x=some .cell->Ok it sc (.e i)->Ok elt cs (.e e)->Ok cond cs (.ofCond ifs)->kQ y sc cs=true->kY i=false->TieS (.asgC x (.comp elt y it cond)) sc (.s (.Assign [.Name x q] (.ListComp e [⟨.Name y yp,i,ifs,0⟩] cs lp) p))
 | asg {sc x e q v p}:sc.names.lookup x=some .local->Ok e sc (.e v)->xV v=false->TieS (.asg x e) sc (.s (.Assign [.Name x q] v p))
 | own {sc x e q l p r}:sc.names.lookup x=some .local->Ok e sc (.es l)->TieS (.own x (.list e)) sc (.s (.Assign [.Name x q] (.List l r) p))
 | asgC {sc x e q v p}:sc.names.lookup x=some .cell->Ok e sc (.e v)->xV v=false->TieS (.asgC x e) sc (.s (.Assign [.Name x q] v p))
 | setA {sc o f e t q v p}:Ok o sc (.e t)->Ok e sc (.e v)->xV v=false->TieS (.setA o f e) sc (.s (.Assign [.Attribute t f q] v p))
 | ret {sc e v p}:Ok e sc (.e v)->TieS (.ret e) sc (.s (.Return (some v) p))
 | ite {sc c a b t x y p}:Ok c sc (.e t)->TieS a sc (.l x)->TieS b sc (.l y)->TieS (.ite c a b) sc (.s (.If t x y p))
 | loop {sc n c b o t x y p}:Ok c sc (.e t)->TieS b sc (.l x)->TieS o sc (.l y)->TieS (.loop n c b o) sc (.s (.While t x y p))
 | each {sc x it b q i z p}:sc.names.lookup x=some .local->Ok it sc (.e i)->TieS b sc (.l z)->kY i=false->TieS (.each x it b) sc (.s (.For (.Name x q) i z [] p))
 | assert {sc e t p}:Ok e sc (.e t)->TieS (.assert e) sc (.s (.Assert t Option.none p))
 | nil {sc}:TieS .nil sc (.l [])
 | seq {sc a b x r}:TieS a sc (.s x)->TieS b sc (.l r)->TieS (.seq a b) sc (.l (x::r))
 | asg2 {sc x y e aI aJ k q g as ks r p}:sc.names.lookup x=some .local->sc.names.lookup y=some .local->Ok e sc (.e (.Call g as ks r))->TieS (.asg2 x y e) sc (.s (.Assign [.Tuple [.Name x aI,.Name y aJ] k q] (.Call g as ks r) p))
 | aug {sc x e q v p}:sc.names.lookup x=some .local->Ok e sc (.e v)->TieS (.aug x e) sc (.s (.AugAssign (.Name x q) .Add v p))
 | asg2C {sc x y e aI aJ k q g as ks r p}:sc.names.lookup x=some .cell->sc.names.lookup y=some .local->Ok e sc (.e (.Call g as ks r))->TieS (.asg2C x y e) sc (.s (.Assign [.Tuple [.Name x aI,.Name y aJ] k q] (.Call g as ks r) p))
 | asg2s {sc x y e aI aJ k q a b k' r p}:sc.names.lookup x=some .local->sc.names.lookup y=some .local->Ok e sc (.e (.Tuple [a,b] k' r))->qHg a b=true->(x != y && aI.line == aJ.line)=true->TieS (.asg2 x y e) sc (.s (.Assign [.Tuple [.Name x aI,.Name y aJ] k q] (.Tuple [a,b] k' r) p))
 | cont {sc p}:TieS .cont sc (.s (.Continue p))
 | ret0 {sc p}:TieS .ret0 sc (.s (.Return Option.none p))
 | asgs {sc x y e aI aJ v p}:sc.names.lookup x=some .local->sc.names.lookup y=some .local->Ok e sc (.e v)->xV v=false->TieS (.asgs x y e) sc (.s (.Assign [.Name x aI,.Name y aJ] v p))
 | ownA {sc o f x es t aI aJ l r p}:sc.names.lookup x=some .local->Ok o sc (.e t)->Ok es sc (.es l)->TieS (.ownA o f x (.list es)) sc (.s (.Assign [.Attribute t f aI,.Name x aJ] (.List l r) p))
 | sq {sc x tn ps b q q2 ap p1 r p l l'}:(zR x && sc.names.lookup x == some .local)=true->Ok (.glob tn) sc (.e (.Name tn p1))->ap.endLine=r.line->Reps x ps l l'->TieS b sc (.l l') ->
  TieS (.sq x tn ps b) sc (.l (.Assign [.Name x q] (.Call (.Attribute (.Name x q2) "translate" ap) [.Name tn p1] [] r) p::l))
set_option genCtorIdx true in
inductive V where
 | none
 | bool (b:Bool)
 | int (i:Int)
 | str (s:Str)
 | list (xs:List V)
 | tup (xs:List V)
 | ref (k:Nat)
 | rng (a b c:Int)
 | mt (p e:Nat)
 | bnd (k:Nat)
 | clo (ps:List Str) (x:X) (cs:List (Str×Nat))
 | top (v:g9)
set_option genCtorIdx true in
inductive O where
 | list (xs:List V)
 | inst (C:Addr) (d:Nat)
 | dict (fs:List (Str×V))
 | cell (v:Option V)
 | tab (q:Str)
structure Wd where
 ρ:Nat->Nat
 fz:Nat->Option Obj
noncomputable def zT (a:Addr):Obj:={ cls:=.type "builtin_function_or_method", data:=.fields #[.builtin "list.append", .ref a] }
def CodeFz (W:Wd) (cv:g9) (q:Str):Prop:=∃ c oc vs t,cv=.ref c/\W.fz c=some oc/\oc.data=.fields vs/\vs[1]? = some (.str q t)
structure CloOk (W:Wd) (n:Nat) (ps:List Str) (x:X) (cs:List (Str×Nat)) (fd:FuncData):Prop where
 body:∃ e,fd.body=.expr e/\Ok x fd.scope (.e e)
 shape:wB ps fd.scope=true
 code:CodeFz W fd.code fd.qualname
 glob:fd.globals=r8
 bns:fd.builtins=aY
 args:∀ cargs:Lv,cargs.length=ps.length->bindArgs fd ⟨cargs,[]⟩=pure (ps.zip cargs)
 free:∀ y,fd.scope.names.lookup y=some .free->∃ a,fd.closure.lookup y=some a
 cel:∀ y k,cs.lookup y=some k->k < n/\(fd.scope.names.lookup y=some .free->fd.closure.lookup y=some (W.ρ k))
mutual
inductive VR (W:Wd) (n:Nat):V->g9->Prop
 | none:VR W n .none .none
 | bool (b:Bool):VR W n (.bool b) (.bool b)
 | int (i:Int) (t:Tok):VR W n (.int i) (.int i t)
 | str (s:Str) (t:Tok):s.length<=g0->t5 s=true->VR W n (.str s) (.str s t)
 | list {a:Addr} {o:Obj} {items:Array g9} {e:Nat} {xs:List V}:W.fz a=some o->o.cls=.type "list" -> o.data=.seq items e->items.size<=g0->VRs W n xs items.toList->o.dict=Option.none->VR W n (.list xs) (.ref a)
 | tup {a:Addr} {o:Obj} {items:Array g9} {e:Nat} {xs:List V}:W.fz a=some o->o.cls=.type "tuple" -> o.data=.seq items e->items.size<=g0->VRs W n xs items.toList->VR W n (.tup xs) (.ref a)
 | ref {k:Nat}:k < n->VR W n (.ref k) (.ref (W.ρ k))
 | rng {r:Nat} {a b c:Int} {t u v:Tok}:W.fz r=some { cls:=.type "range", dict:=Option.none,data:=.fields #[.int a t,.int b u,.int c v],slots:=#[] }->Builtin.Range.small a b c=true->VR W n (.rng a b c) (.ref r)
 | mt {a tp:Nat} {o ot:Obj} {vs:Array g9} {items:Array g9} {aQ:Nat} {p e:Nat} {t u:Tok}:W.fz a=some o->o.cls=.type "re.Match" -> o.data=.fields vs->vs.getD 5 .none=.ref tp->W.fz tp=some ot->ot.data=.seq items aQ->items.toList=[.int p t,.int e u]->o.dict=Option.none->VR W n (.mt p e) (.ref a)
 | bnd {b k:Nat}:k < n->W.fz b=some (zT (W.ρ k))->VR W n (.bnd k) (.ref b)
 | clo {a:Nat} {o:Obj} {fd:FuncData} {ps:List Str} {x:X} {cs:List (Str×Nat)}:W.fz a=some o->o.data=.func fd->CloOk W n ps x cs fd->VR W n (.clo ps x cs) (.ref a)
 | top (v:g9):VR W n (.top v) v
inductive VRs (W:Wd) (n:Nat):List V->Lv->Prop
 | nil:VRs W n [] []
 | cons {x:V} {c:g9} {xs:List V} {cs:Lv}:VR W n x c->VRs W n xs cs->VRs W n (x::xs) (c::cs)
end
structure Wle (n:Nat) (W W':Wd):Prop where
 ρ:∀ k,k < n->W'.ρ k=W.ρ k
 fz:∀ a c,W.fz a=some c->W'.fz a=some c
theorem Wle.refl (n:Nat) (W:Wd):Wle n W W:=⟨λ q q=>rfl,λ q q e=>e⟩
theorem Wle.trans {n u:Nat} {W W' W'':Wd} (a:Wle n W W') (hn:n<=u) (b:Wle u W' W''):Wle n W W'' :=
 ⟨λ k hk=>(b.ρ k (m0 hk hn)).trans (a.ρ k hk),λ x c e=>b.fz x c (a.fz x c e)⟩
theorem CodeFz.mono {W W':Wd} {n:Nat} {cv:g9} {q:Str} (l:Wle n W W') (h:CodeFz W cv q):CodeFz W' cv q :=
 let ⟨c,oc,vs,t,h1,h2,h3,h4⟩:=h; ⟨c,oc,vs,t,h1,l.fz _ _ h2,h3,h4⟩
theorem CloOk.mono {W W':Wd} {n u:Nat} (l:Wle n W W') (hn:n<=u) {ps:List Str} {x:X} {cs:List (Str×Nat)} {B:FuncData} (h:CloOk W n ps x cs B):CloOk W' u ps x cs B :=
 ⟨h.body,h.shape,h.code.mono l,h.glob,h.bns,h.args,h.free,λ y k hk=>⟨m0 (h.cel y k hk).1 hn,λ D=>by rw [l.ρ k (h.cel y k hk).1]; exact (h.cel y k hk).2 D⟩⟩
def VR.Dat (W:Wd) (n:Nat) (c:g9):V->Prop
 | .none=>c=.none
 | .bool b=>c=.bool b
 | .int i=>∃ t,c=.int i t
 | .str x=>∃ t,c=.str x t/\x.length<=g0/\t5 x=true
 | .list xs=>∃ a o items e,c=.ref a/\W.fz a=some o/\o.cls=.type "list" /\ o.data=.seq items e/\items.size<=g0/\VRs W n xs items.toList/\o.dict=Option.none
 | .tup xs=>∃ a o items e,c=.ref a/\W.fz a=some o/\o.cls=.type "tuple" /\ o.data=.seq items e/\items.size<=g0/\VRs W n xs items.toList
 | .ref k=>c=.ref (W.ρ k)/\k < n
 | .rng x y z=>∃ r t u v,c=.ref r/\W.fz r=some { cls:=.type "range", dict:=Option.none,data:=.fields #[.int x t,.int y u,.int z v],slots:=#[] }/\Builtin.Range.small x y z=true
 | .mt p e=>∃ a D o ot vs items J t u,c=.ref a/\W.fz a=some o/\o.cls=.type "re.Match" /\ o.data=.fields vs/\vs.getD 5 .none=.ref D/\W.fz D=some ot/\ot.data=.seq items J/\items.toList=[.int p t,.int e u]/\o.dict=Option.none
 | .bnd k=>∃ b,c=.ref b/\k < n/\W.fz b=some (zT (W.ρ k))
 | .clo ps x cs=>∃ a o B,c=.ref a/\W.fz a=some o/\o.data=.func B/\CloOk W n ps x cs B
 | .top v=>c=v
theorem VR.dat {W:Wd} {n:Nat} {v:V} {c:g9} (h:VR W n v c):VR.Dat W n c v:=by
 cases h with
 | none=>exact rfl
 | bool=>exact rfl
 | int=>exact ⟨_,rfl⟩
 | str _ _ a b=>exact ⟨_,rfl,a,b⟩
 | list a b d z r q=>exact ⟨_,_,_,_,rfl,a,b,d,z,r,q⟩
 | tup a b d z r=>exact ⟨_,_,_,_,rfl,a,b,d,z,r⟩
 | ref h=>exact ⟨rfl,h⟩
 | rng a b=>exact ⟨_,_,_,_,rfl,a,b⟩
 | mt a b c d e f g h=>exact ⟨_,_,_,_,_,_,_,_,_,rfl,a,b,c,d,e,f,g,h⟩
 | bnd a b=>exact ⟨_,rfl,a,b⟩
 | clo a b d=>exact ⟨_,_,_,rfl,a,b,d⟩
 | top=>exact rfl
theorem VR.inv_int {W:Wd} {n:Nat} {i:Int} {c:g9} (h:VR W n (.int i) c):∃ t,c=.int i t:=h.dat
theorem VR.inv_str {W:Wd} {n:Nat} {x:Str} {c:g9} (h:VR W n (.str x) c):∃ t,c=.str x t/\x.length<=g0/\t5 x=true:=h.dat
theorem VR.inv_ref {W:Wd} {n k:Nat} {c:g9} (h:VR W n (.ref k) c):c=.ref (W.ρ k)/\k < n:=h.dat
theorem VR.inv_top {W:Wd} {n:Nat} {v c:g9} (h:VR W n (.top v) c):c=v:=h.dat
def VRs.Dat (W:Wd) (n:Nat) (cs:Lv):List V->Prop
 | []=>cs=[]
 | x::xs=>∃ c u,cs=c::u/\VR W n x c/\VRs W n xs u
theorem VRs.dat {W:Wd} {n:Nat} {vs:List V} {cs:Lv} (h:VRs W n vs cs):VRs.Dat W n cs vs:=by
 cases h with
 | nil=>exact rfl
 | cons a b=>exact ⟨_,_,rfl,a,b⟩
theorem VRs.inv_nil {W:Wd} {n:Nat} {cs:Lv} (h:VRs W n [] cs):cs=[]:=h.dat
theorem VRs.inv_cons {W:Wd} {n:Nat} {x:V} {xs:List V} {cs:Lv} (h:VRs W n (x::xs) cs):∃ c u,cs=c::u/\VR W n x c/\VRs W n xs u:=h.dat
theorem VRs.inv1 {W:Wd} {n:Nat} {x:V} {cs:Lv} (h:VRs W n [x] cs):∃ c,cs=[c]/\VR W n x c:=by
 obtain ⟨c,u,rfl,a,b⟩:=h.inv_cons
 obtain rfl:=b.inv_nil
 exact ⟨c,rfl,a⟩
theorem VRs.inv2 {W:Wd} {n:Nat} {x y:V} {cs:Lv} (h:VRs W n [x,y] cs):∃ c d,cs=[c,d]/\VR W n x c/\VR W n y d:=by
 obtain ⟨c,B,rfl,a,b⟩:=h.inv_cons
 obtain ⟨d,rfl,u⟩:=b.inv1
 exact ⟨c,d,rfl,a,u⟩
theorem VR.mono {W W':Wd} {n u:Nat} (l:Wle n W W') (hn:n<=u) {v:V} {c:g9} (h:VR W n v c):VR W' u v c :=
 VR.rec (motive_1:=λ v c q=>VR W' u v c) (motive_2:=λ v c q=>VRs W' u v c) .none .bool .int .str
  (λ a b c s q e d=>.list (l.fz _ _ a) b c s d e) (λ a b c s q d=>.tup (l.fz _ _ a) b c s d) (λ {k} h=>by rw [← l.ρ k h]; exact .ref (m0 h hn))
  (λ a b=>.rng (l.fz _ _ a) b) (λ a b c d e f g h=>.mt (l.fz _ _ a) b c d (l.fz _ _ e) f g h) (λ {_ k} h e=>.bnd (m0 h hn) (by rw [l.ρ k h]; exact l.fz _ _ e)) (λ a b c=>.clo (l.fz _ _ a) b (c.mono l hn)) .top .nil (λ q q a b=>.cons a b) h
theorem VRs.ind {W:Wd} {n:Nat} {C:List V->Lv->Prop} (u:C [] []) (h2:∀ {x c xs cs},VR W n x c->VRs W n xs cs->C xs cs->C (x::xs) (c::cs)) {xs:List V} {cs:Lv} (h:VRs W n xs cs):C xs cs :=
 VRs.rec (motive_1:=λ q q q=>True) (motive_2:=λ xs cs q=>C xs cs) trivial (λ q=>trivial) (λ q q=>trivial) (λ q q q q=>trivial) (λ q q q q q q q=>trivial) (λ q q q q q q=>trivial) (λ q=>trivial) (λ q q=>trivial) (λ q q q q q q q q=>trivial) (λ q q=>trivial) (λ q q q=>trivial) (λ q=>trivial) u (λ a b q B=>h2 a b B) h
theorem VRs.mono {W W':Wd} {n u:Nat} (l:Wle n W W') (hn:n<=u) {v:List V} {c:Lv} (h:VRs W n v c):VRs W' u v c :=
 h.ind .nil λ a q B=>.cons (a.mono l hn) B
theorem VRs.length {W:Wd} {n:Nat} {xs:List V} {cs:Lv} (h:VRs W n xs cs):cs.length=xs.length :=
 h.ind (C:=λ xs cs=>cs.length=xs.length) rfl λ q q u=>g8 oB u
theorem VRs.get {W:Wd} {n:Nat} {xs:List V} {cs:Lv} (h:VRs W n xs cs):∀ {i:Nat} {x:V},xs[i]? = some x->∃ c,cs[i]? = some c/\VR W n x c:=by
 refine h.ind (C:=λ xs cs=>∀ {i:Nat} {x:V},xs[i]? = some x->∃ c,cs[i]? = some c/\VR W n x c) (λ e=>nomatch e) ?_
 intro _ _ _ _ a _ u i x e
 cases i with
 | zero=>cases e; exact ⟨_,rfl,a⟩
 | succ i=>exact u (i:=i) e
theorem VRs.append {W:Wd} {n:Nat} {xs B:List V} {cs u:Lv} (h:VRs W n xs cs) (b:VRs W n B u):VRs W n (xs++B) (cs++u) :=
 h.ind (C:=λ xs cs=>VRs W n (xs++B) (cs++u)) b λ a q D=>.cons a D
theorem VRs.drop {W:Wd} {n:Nat} {xs:List V} {cs:Lv} (i:Nat) (h:VRs W n xs cs):VRs W n (xs.drop i) (cs.drop i):=by
 refine h.ind (C:=λ xs cs=>∀ i,VRs W n (xs.drop i) (cs.drop i)) (λ i=>by rw [oZ,oZ]; exact .nil) ?_ i
 intro _ _ _ _ a r u i
 cases i with
 | zero=>exact .cons a r
 | succ i=>exact u i
theorem VRs.take {W:Wd} {n:Nat} {xs:List V} {cs:Lv} (i:Nat) (h:VRs W n xs cs):VRs W n (xs.take i) (cs.take i):=by
 refine h.ind (C:=λ xs cs=>∀ i,VRs W n (xs.take i) (cs.take i)) (λ i=>by rw [List.take_nil,List.take_nil]; exact .nil) ?_ i
 intro _ _ _ _ a r u i
 cases i with
 | zero=>exact .nil
 | succ i=>exact .cons a (u i)
theorem VRs.reverse {W:Wd} {n:Nat} {xs:List V} {cs:Lv} (h:VRs W n xs cs):VRs W n xs.reverse cs.reverse :=
 h.ind (C:=λ xs cs=>VRs W n xs.reverse cs.reverse) .nil λ a q u=>by rw [mH,mH]; exact u.append (.cons a .nil)
class inductive FR  (W:Wd) (n:Nat):List (Str×V)->List dH->Prop
 | nil:FR W n [] []
 | cons {x:Str} {v:V} {c:g9} {hsh:Int} {t:Tok} {fs:List (Str×V)} {es:List dH}:VR W n v c->FR W n fs es->FR W n ((x,v)::fs) (⟨hsh,.str x t,c⟩::es)
theorem FR.mono {W W':Wd} {n u:Nat} (l:Wle n W W') (hn:n<=u):∀ {v:List (Str×V)} {c:List dH},FR W n v c->FR W' u v c
 | _,_,.nil=>.nil
 | _,_,.cons a b=>.cons (a.mono l hn) (b.mono l hn)
def zRy (W:Wd) (q:Str) (ps:Array g9):Prop:=TriplesOk ps.toList/\∀ pos cv,codeAmong pos ps.toList=some cv->CodeFz W cv q
inductive OR (W:Wd) (n:Nat):O->Obj->Prop
 | list {items:Array g9} {e:Nat} {xs:List V}:VRs W n xs items.toList->items.size<=g0->OR W n (.list xs) (listOf items e)
 | inst {C:Addr} {d:Nat}:d < n->OR W n (.inst C d) (instObj C (W.ρ d))
 | dict {fs:List (Str×V)} {es:List dH} {e:Nat}:FR W n fs es->OR W n (.dict fs) (dictOf es e)
 | cell {o:Obj} {v:V} {c:g9}:o.data=.cell (some c)->VR W n v c->OR W n (.cell (some v)) o
 | nocell {o:Obj}:o.data=.cell .none->OR W n (.cell .none) o
 | tab {q:Str} {ps:Array g9}:zRy W q ps->OR W n (.tab q) (tabObj ps)
theorem OR.mono {W W':Wd} {n u:Nat} (l:Wle n W W') (hn:n<=u) {o:O} {c:Obj} (h:OR W n o c):OR W' u o c:=by
 cases h with
 | list d z=>exact .list (d.mono l hn) z
 | inst h=>rw [← l.ρ _ h]; exact .inst (m0 h hn)
 | dict h=>exact .dict (h.mono l hn)
 | cell h r=>exact .cell h (r.mono l hn)
 | nocell h=>exact .nocell h
 | tab h=>exact .tab ⟨h.1,λ pos cv e=>(h.2 pos cv e).mono l⟩
theorem OR.inv_list {W:Wd} {n:Nat} {xs:List V} {c:Obj} (h:OR W n (.list xs) c):∃ items e,c=listOf items e/\VRs W n xs items.toList/\items.size<=g0:=by cases h; exact ⟨_,_,rfl,‹_›,‹_›⟩
theorem OR.unfreed {W:Wd} {n:Nat} {o:O} {c:Obj} (h:OR W n o c):c.isFreed=false:=by
 cases h with
 | list d z=>rfl
 | inst h=>rfl
 | dict h=>rfl
 | cell h r=>obtain ⟨c,d,u,B⟩:=c; simp only at h; subst h; rfl
 | nocell h=>obtain ⟨c,d,u,B⟩:=c; simp only at h; subst h; rfl
 | tab h=>rfl
structure Hp where
 obj:Nat->Option O
 nxt:Nat
structure St extends Hp where
 loc:List (Str×V)
 cel:List (Str×Nat):=[]
 tbl:Option (Nat×Str):=none
structure Par where
 prog:gA
 w:World
 B:mS
 os:OsState
 ex:Option (Nat×Obj):=none
 T:Nat
noncomputable abbrev Par.M (P:Par):Model:=model P.prog P.w
structure Inv (P:Par) (fr:Ln) (W:Wd) (Z:Hp) (s:d6):Prop where
 keep:∀ b o,P.B.get? b=some o->s.heap.get? b=some o
 old:∀ k,k < Z.nxt->P.B.get? (W.ρ k)=none
 live:∀ k,k < Z.nxt->∃ o,s.heap.get? (W.ρ k)=some o
 nofr:∀ k,k < Z.nxt->W.ρ k ∉ fr
 nofz:∀ k,k < Z.nxt->W.fz (W.ρ k)=none
 inj:∀ i j,i < Z.nxt->j < Z.nxt->W.ρ i=W.ρ j->i=j
 obj:∀ k o,Z.obj k=some o->k < Z.nxt/\∃ c,s.heap.get? (W.ρ k)=some c/\OR W Z.nxt o c
 frz:∀ (a:Nat) c,W.fz a=some c->s.heap.get? a=some c/\a ∉ fr
 frB:∀ a∈fr,P.B.get? a=none/\∃ o,s.heap.get? a=some o/\∀ vs,o.data≠.fields vs
 gens:s.gens = #[]
 os:s.os=P.os
 exc:∀ e ob,P.ex=some (e,ob)->W.fz e=some ob
 tab0:0 < Z.nxt/\W.ρ 0=P.T
structure Loc (P:Par) (env:Env) (W:Wd) (Z:St) (h:mS):Prop where
 kind:env.scope.kind=.function
 glob:env.globals=r8
 bns:env.builtins=aY
 loc:∃ m,h.Ns env.locals m/\∀ x v,Z.loc.lookup x=some v->env.kindOf x=some .local/\∃ c,m x=some c/\VR W Z.nxt v c
 cel:∀ x k,Z.cel.lookup x=some k->k < Z.nxt/\((env.kindOf x=some .cell\/env.kindOf x=some .free)->env.cells.lookup x=some (W.ρ k))
 cod:∀ k q,Z.tbl=some (k,q)->k < Z.nxt/\env.qual++fB "<lambda>" = q/\∃ c,env.code=.ref c/\CodeHd P.B c (W.ρ k)
structure Nx (fr:Ln) (L:Nat) (W:Wd) (n:Nat) (h:mS) (W':Wd) (n':Nat) (h':mS):Prop where
 wle:Wle n W W'
 le:n<=n'
 live:∀ a o,h.get? a=some o->∃ o',h'.get? a=some o'
 new:∀ k,n<=k->k < n'->h.get? (W'.ρ k)=none
 fzn:∀ a c,W'.fz a=some c->W.fz a=some c\/h.get? a=none
 ext:∀ (a:Nat) o,h.get? a=some o->a≠L->a ∉ fr->(∀ k,k < n->W.ρ k≠a)->h'.get? a=some o
 fext:∀ (a:Nat) o,a∈fr->a≠L->h.get? a=some o->∃ o',h'.get? a=some o'/\o'.data=o.data
theorem Nx.refl (fr:Ln) (L:Nat) (W:Wd) (n:Nat) (h:mS):Nx fr L W n h W n h :=
 ⟨.refl n W,d7 _,λ q o e=>⟨o,e⟩,λ q a b=>f8 b (Nat.not_lt.mpr a),λ q q e=>.inl e,λ q q e q q q=>e,λ q o q q e=>⟨o,e,rfl⟩⟩
theorem Nx.trans {fr:Ln} {L:Nat} {W W' W'':Wd} {n S O:Nat} {h h' J:mS} (a:Nx fr L W n h W' S h') (b:Nx fr L W' S h' W'' O J):Nx fr L W n h W'' O J where
 wle:=a.wle.trans a.le b.wle
 le:=d5 a.le b.le
 live:=λ x o e=>let ⟨D,u⟩:=a.live x o e; b.live x D u
 new:=λ k B h2=>by
  by_cases hk:k < S
  ·rw [b.wle.ρ k hk]; exact a.new k B hk
  ·cases q:h.get? (W''.ρ k) with
   | none=>rfl
   | some o=>obtain ⟨D,u⟩:=a.live _ _ q; rw [b.new k (Nat.not_lt.mp hk) h2] at u; cases u
 fzn:=λ x c e=>by
  rcases b.fzn x c e with q | q
  ·exact a.fzn x c q
  ·right
   cases Y:h.get? x with
   | none=>rfl
   | some o=>obtain ⟨D,u⟩:=a.live _ _ Y; rw [q] at u; cases u
 ext:=λ x o e B U h2=>b.ext x o (a.ext x o e B U h2) B U λ k hk q=>by
  by_cases hn:k < n
  ·rw [a.wle.ρ k hn] at q; exact h2 k hn q
  ·have:=a.new k (Nat.not_lt.mp hn) hk
   rw [q,e] at this; cases this
 fext:=λ x o B h2 e=>by
  obtain ⟨D,u,d'⟩:=a.fext x o B h2 e
  obtain ⟨T,V,X⟩:=b.fext x D B h2 u
  exact ⟨T,V,X.trans d'⟩
theorem Nx.keeps {fr:Ln} {L:Nat} {W W':Wd} {n u:Nat} {h h':mS} (B:Wle n W W') (le:n<=u) (hk:∀ b o,h.get? b=some o->h'.get? b=some o) (new:∀ k,n<=k->k < u->h.get? (W'.ρ k)=none) (fzn:∀ a c,W'.fz a=some c->W.fz a=some c\/h.get? a=none):Nx fr L W n h W' u h' :=
 ⟨B,le,λ q o e=>⟨o,hk _ _ e⟩,new,fzn,λ q q e q q q=>hk _ _ e,λ q o q q e=>⟨o,hk _ _ e,rfl⟩⟩
structure Step (P:Par) (fr:Ln) (env:Env) (W:Wd) (Z:St) (s:d6) (W':Wd) (Z':St) (s':d6):Prop where
 nx:Nx fr env.locals W Z.nxt s.heap W' Z'.nxt s'.heap
 inv:Inv P fr W' Z'.toHp s'
 loc:Loc P env W' Z' s'.heap
theorem Step.trans {P:Par} {fr:Ln} {env:Env} {W W' W'':Wd} {Z Z' Z'':St} {s s' s'':d6} (a:Step P fr env W Z s W' Z' s') (b:Step P fr env W' Z' s' W'' Z'' s''):Step P fr env W Z s W'' Z'' s'' :=
 ⟨a.nx.trans b.nx,b.inv,b.loc⟩
section
variable {P:Par} {fr:Ln} {env:Env} {W:Wd} {Z:St} {s:d6}
theorem Inv.toks (I:Inv P fr W Z.toHp s) (t:Nat):Inv P fr W Z.toHp { s with toks:=t } :=
 ⟨I.keep,I.old,I.live,I.nofr,I.nofz,I.inj,I.obj,I.frz,I.frB,I.gens,I.os,I.exc,I.tab0⟩
theorem Step.toks (I:Inv P fr W Z.toHp s) (L:Loc P env W Z s.heap) (t:Nat):Step P fr env W Z s W Z { s with toks:=t } :=
 ⟨.refl ..,I.toks t,L⟩
theorem Step.refl (I:Inv P fr W Z.toHp s) (L:Loc P env W Z s.heap):Step P fr env W Z s W Z s:=⟨.refl ..,I,L⟩
theorem Inv.grow (I:Inv P fr W Z.toHp s) {s':d6} (hk:∀ b o,s.heap.get? b=some o->s'.heap.get? b=some o) (hg:s'.gens=s.gens) (u:s'.os=s.os):Inv P fr W Z.toHp s' where
 keep:=λ b o e=>hk _ _ (I.keep b o e)
 old:=I.old
 live:=λ k h=>let ⟨o,e⟩:=I.live k h; ⟨o,hk _ _ e⟩
 nofr:=I.nofr
 nofz:=I.nofz
 inj:=I.inj
 obj:=λ k o e=>let ⟨a,c,b,d⟩:=I.obj k o e; ⟨a,c,hk _ _ b,d⟩
 frz:=λ a c e=>⟨hk _ _ (I.frz a c e).1,(I.frz a c e).2⟩
 frB:=λ a h=>⟨(I.frB a h).1,let ⟨o,e,d⟩:=(I.frB a h).2; ⟨o,hk _ _ e,d⟩⟩
 gens:=hg.trans I.gens
 os:=u.trans I.os
 exc:=I.exc
 tab0:=I.tab0
theorem Loc.grow (L:Loc P env W Z s.heap) {h':mS} (hk:∀ b o,s.heap.get? b=some o->h'.get? b=some o):Loc P env W Z h' :=
 ⟨L.kind,L.glob,L.bns,let ⟨m,a,b⟩:=L.loc; ⟨m,a.keeps hk,b⟩,L.cel,L.cod⟩
theorem Step.grow (I:Inv P fr W Z.toHp s) (L:Loc P env W Z s.heap) {s':d6} (hk:∀ b o,s.heap.get? b=some o->s'.heap.get? b=some o) (hg:s'.gens=s.gens) (u:s'.os=s.os) :
  Step P fr env W Z s W Z s' :=
 ⟨.keeps (.refl ..) (d7 _) hk (λ q a b=>f8 b (Nat.not_lt.mpr a)) (λ q q e=>.inl e),I.grow hk hg u,L.grow hk⟩
theorem Step.push (I:Inv P fr W Z.toHp s) (L:Loc P env W Z s.heap) (o:Obj) {s':d6} (e:s'.heap=s.heap.push o) (hg:s'.gens=s.gens) (u:s'.os=s.os):Step P fr env W Z s W Z s' :=
 Step.grow I L (λ q q x=>e ▸ j9 _ x) hg u
noncomputable def Wd.freeze (W:Wd) (a:Nat) (o:Obj):Wd:={ W with fz:=λ b=>if b=a then some o else W.fz b }
theorem Step.freezeAt (I:Inv P fr W Z.toHp s) (L:Loc P env W Z s.heap) (o:Obj) (a:Nat) (hn:s.heap.get? a=none) {s':d6} (hk:∀ b B,s.heap.get? b=some B->s'.heap.get? b=some B) (ha:s'.heap.get? a=some o) (hg:s'.gens=s.gens) (T:s'.os=s.os) :
  Step P fr env W Z s (W.freeze a o) Z s':=by
 have S:∀ b c,W.fz b=some c->(W.freeze a o).fz b=some c:=λ b c h=>by
  show (if b=a then some o else W.fz b)=some c
  rw [d0]; exact h
  rintro rfl; have:=(I.frz _ _ h).1; rw [hn] at this; cases this
 have O:Wle Z.nxt W (W.freeze a o):=⟨λ z z=>rfl,S⟩
 have J:=I.grow hk hg T
 refine ⟨.keeps O (d7 _) hk (λ z a b=>f8 b (Nat.not_lt.mpr a)) (λ b c e=>?_),⟨J.keep,J.old,J.live,J.nofr,λ k h=>?_,J.inj,λ k B h=>?_,λ b c h=>?_,J.frB,J.gens,J.os,λ e o h=>O.fz _ _ (J.exc e o h),J.tab0⟩,?_⟩
 ·by_cases D:b=a
  ·subst D; exact .inr hn
  ·have u:(if b=a then some o else W.fz b)=some c:=e
   rw [d0 D] at u; exact .inl u
 ·show (if W.ρ k=a then some o else W.fz (W.ρ k))=none
  rw [d0]; exact I.nofz k h
  rintro rfl; obtain ⟨B,u⟩:=I.live k h; rw [hn] at u; cases u
 ·obtain ⟨a,c,b,d⟩:=J.obj k B h; exact ⟨a,c,b,d.mono O (d7 _)⟩
 ·by_cases D:b=a
  ·subst D
   have h':(if b=b then some o else W.fz b)=some c:=h
   rw [c7 rfl] at h'; cases h'
   refine ⟨ha,λ U=>?_⟩
   obtain ⟨B,u,_⟩:=(I.frB _ U).2; rw [hn] at u; cases u
  ·have h':(if b=a then some o else W.fz b)=some c:=h
   rw [d0 D] at h'
   exact J.frz b c h'
 ·have J':=L.grow hk
  exact ⟨J'.kind,J'.glob,J'.bns,let ⟨m,a,b⟩:=J'.loc; ⟨m,a,λ x v h=>let ⟨p,c,q,r⟩:=b x v h; ⟨p,c,q,r.mono O (d7 _)⟩⟩,J'.cel,J'.cod⟩
theorem kH (h:mS):h.get? h.objs.size=none:=dB (d7 _)
theorem Step.freeze (I:Inv P fr W Z.toHp s) (L:Loc P env W Z s.heap) (o:Obj) (u:o.isFreed=false) {s':d6} (e:s'.heap=s.heap.push o) (hg:s'.gens=s.gens) (B:s'.os=s.os) :
  Step P fr env W Z s (W.freeze s.heap.objs.size o) Z s' :=
 Step.freezeAt I L o _ (kH _) (λ q q x=>e ▸ j9 _ x) (e ▸ r4 _ u) hg B
noncomputable def Wd.add (W:Wd) (n:Nat) (a:Nat):Wd:={ W with ρ:=λ k=>if k=n then a else W.ρ k }
noncomputable def St.add (Z:St) (o:O):St:={ Z with obj:=λ k=>if k=Z.nxt then some o else Z.obj k,nxt:=Z.nxt+1 }
theorem Wd.add_le (W:Wd) (n:Nat) (a:Nat):Wle n W (W.add n a) :=
 ⟨λ k h=>by show (if k=n then a else W.ρ k)=W.ρ k; rw [d0 (r9 h)],λ q q e=>e⟩
theorem Step.addAt (I:Inv P fr W Z.toHp s) (L:Loc P env W Z s.heap) (o:O) (c:Obj) (a:Nat) (hn:s.heap.get? a=none) (hr:OR (W.add Z.nxt a) (Z.nxt+1) o c) {s':d6} (hk:∀ b U,s.heap.get? b=some U->s'.heap.get? b=some U) (ha:s'.heap.get? a=some c) (hg:s'.gens=s.gens) (ho:s'.os=s.os) :
  Step P fr env W Z s (W.add Z.nxt a) (Z.add o) s':=by
 have S:=W.add_le Z.nxt a
 have J:=I.grow hk hg ho
 have u:(W.add Z.nxt a).ρ Z.nxt=a:=by show (if Z.nxt=Z.nxt then _ else _)=_; rw [c7 rfl]
 have D:∀ k,k < Z.nxt+1->k=Z.nxt\/(k < Z.nxt/\(W.add Z.nxt a).ρ k=W.ρ k):=λ k h=>by
  rcases Nat.lt_succ_iff_lt_or_eq.mp h with h | h
  ·exact .inr ⟨h,S.ρ k h⟩
  ·exact .inl h
 refine ⟨.keeps S (dY _) hk (λ k V b=>?_) (λ z z e=>.inl e),⟨J.keep,λ k h=>?_,λ k h=>?_,λ k h=>?_,λ k h=>?_,λ i j hi hj h=>?_,λ k U h=>?_,λ a c h=>J.frz a c h,J.frB,J.gens,J.os,J.exc,lJ _,(S.ρ 0 J.tab0.1).trans J.tab0.2⟩,?_⟩
 ·rcases D k b with rfl | ⟨q,_⟩
  ·rw [u]; exact hn
  ·exact f8 q (Nat.not_lt.mpr V)
 ·rcases D k h with rfl | ⟨q,r⟩
  ·rw [u]
   cases Y:P.B.get? a with
   | none=>rfl
   | some o=>have:=I.keep _ _ Y; rw [hn] at this; cases this
  ·rw [r]; exact I.old k q
 ·rcases D k h with rfl | ⟨q,r⟩
  ·rw [u]; exact ⟨_,ha⟩
  ·rw [r]; exact J.live k q
 ·rcases D k h with rfl | ⟨q,r⟩
  ·rw [u]; intro hm; obtain ⟨U,T,_⟩:=(I.frB _ hm).2; rw [hn] at T; cases T
  ·rw [r]; exact I.nofr k q
 ·rcases D k h with rfl | ⟨q,r⟩
  ·rw [u]
   show W.fz _=none
   cases Y:W.fz a with
   | none=>rfl
   | some o=>have:=(I.frz _ _ Y).1; rw [hn] at this; cases this
  ·rw [r]; exact I.nofz k q
 ·rcases D i hi with rfl | ⟨q,r⟩ <;> rcases D j hj with rfl | ⟨q',r'⟩
  ·rfl
  ·rw [u,r'] at h; obtain ⟨U,T⟩:=I.live j q'; rw [← h,hn] at T; cases T
  ·rw [u,r] at h; obtain ⟨U,T⟩:=I.live i q; rw [h,hn] at T; cases T
  ·rw [r,r'] at h; exact I.inj i j q q' h
 ·have h':(if k=Z.nxt then some o else Z.obj k)=some U:=h
  by_cases X:k=Z.nxt
  ·subst X
   rw [c7 rfl] at h'; cases h'
   exact ⟨n5 _,c,by rw [u]; exact ha,hr⟩
  ·rw [d0 X] at h'
   obtain ⟨V,c',b,d⟩:=J.obj k U h'
   exact ⟨k9 V,c',by rw [S.ρ k V]; exact b,d.mono S (dY _)⟩
 ·have J':=L.grow hk
  exact ⟨J'.kind,J'.glob,J'.bns,let ⟨m,a,b⟩:=J'.loc; ⟨m,a,λ x v h=>let ⟨p,c,q,r⟩:=b x v h; ⟨p,c,q,r.mono S (dY _)⟩⟩,
   λ x k h=>let ⟨p,q⟩:=J'.cel x k h; ⟨k9 p,λ hk=>by rw [S.ρ k p]; exact q hk⟩,
   λ k q h=>let ⟨p,r⟩:=J'.cod k q h; ⟨k9 p,by rw [S.ρ k p]; exact r⟩⟩
theorem Step.add (I:Inv P fr W Z.toHp s) (L:Loc P env W Z s.heap) (o:O) (c:Obj) (hr:OR (W.add Z.nxt s.heap.objs.size) (Z.nxt+1) o c) {s':d6} (e:s'.heap=s.heap.push c) (hg:s'.gens=s.gens) (u:s'.os=s.os) :
  Step P fr env W Z s (W.add Z.nxt s.heap.objs.size) (Z.add o) s' :=
 Step.addAt I L o c _ (kH _) hr (λ q q x=>e ▸ j9 _ x) (e ▸ r4 _ hr.unfreed) hg u
noncomputable def St.put (Z:St) (k:Nat) (o:O):St:={ Z with obj:=λ j=>if j=k then some o else Z.obj j }
theorem Step.put (I:Inv P fr W Z.toHp s) (L:Loc P env W Z s.heap) {k:Nat} (hk:k < Z.nxt) (hL:env.locals∈fr) (o:O) {c:Obj} (hr:OR W Z.nxt o c) {s':d6} (hs:∀ b o,b≠W.ρ k->s.heap.get? b=some o->s'.heap.get? b=some o) (hc:s'.heap.get? (W.ρ k)=some c) (hg:s'.gens=s.gens) (B:s'.os=s.os) :
  Step P fr env W Z s W (Z.put k o) s':=by
 have lv:∀ a o,s.heap.get? a=some o->∃ u,s'.heap.get? a=some u:=λ a o e=>by
  by_cases ha:a=W.ρ k
  ·subst ha; exact ⟨_,hc⟩
  ·exact ⟨o,hs a o ha e⟩
 refine ⟨⟨.refl ..,d7 _,lv,λ z a b=>f8 b (Nat.not_lt.mpr a),λ z z e=>.inl e,λ a u e z z h=>hs a u (eO (h k hk)) e,λ a u J z e=>⟨u,hs a u (λ q=>I.nofr k hk (q ▸ J)) e,rfl⟩⟩,⟨λ b u e=>?_,I.old,λ j h=>let ⟨o,e⟩:=I.live j h; lv _ _ e,I.nofr,I.nofz,I.inj,λ j u h=>?_,λ a c' h=>?_,λ a h=>⟨(I.frB a h).1,let ⟨o,e,d⟩:=(I.frB a h).2; ⟨o,hs a o (λ q=>I.nofr k hk (q ▸ h)) e,d⟩⟩,hg.trans I.gens,B.trans I.os,I.exc,I.tab0⟩,?_⟩
 ·refine hs b u ?_ (I.keep b u e)
  rintro rfl; rw [I.old k hk] at e; cases e
 ·have h':(if j=k then some o else Z.obj j)=some u:=h
  by_cases hj:j=k
  ·subst hj; rw [c7 rfl] at h'; cases h'; exact ⟨hk,c,hc,hr⟩
  ·rw [d0 hj] at h'
   obtain ⟨a,c',b,d⟩:=I.obj j u h'
   exact ⟨a,c',hs _ _ (λ q=>hj (I.inj j k a hk q)) b,d⟩
 ·refine ⟨hs a c' ?_ (I.frz a c' h).1,(I.frz a c' h).2⟩
  rintro rfl; rw [I.nofz k hk] at h; cases h
 ·obtain ⟨m,a,b⟩:=L.loc
  exact ⟨L.kind,L.glob,L.bns,⟨m,a.extBut (λ b o D e=>hs b o D e) λ q=>I.nofr k hk (q ▸ hL),b⟩,L.cel,L.cod⟩
noncomputable def wY (x:Str) (v:V) (l:List (Str×V)):List (Str×V):=(x,v)::l
theorem zB {x y:Str} {v:V} {l:List (Str×V)}:(wY x v l).lookup y=if y=x then some v else l.lookup y:=by
 unfold wY
 by_cases h:y=x
 ·subst h; simp [i8]
 ·have:(y == x)=false:=by simpa using h
  simp [i8,this,h]
def St.set (Z:St) (x:Str) (v:V):St:={ Z with loc:=wY x v Z.loc }
theorem Step.set (I:Inv P fr W Z.toHp s) (L:Loc P env W Z s.heap) (hL:env.locals∈fr) {x:Str} {v:V} {c:g9} (hv:VR W Z.nxt v c) (hx:env.kindOf x=some .local) {m:Str->Option g9} (X:s.heap.Ns env.locals m)
  {s':d6} (hn:s'.heap.Ns env.locals (λ y=>if y=x then some c else m y)) (hs:gC env.locals s.heap s'.heap) (hg:s'.gens=s.gens) (T:s'.os=s.os):Step P fr env W Z s W (Z.set x v) s':=by
 have lv:∀ a o,s.heap.get? a=some o->∃ B,s'.heap.get? a=some B:=λ a o e=>by
  by_cases ha:a=env.locals
  ·subst ha; obtain ⟨B,_,_,D,_⟩:=hn; exact ⟨B,D⟩
  ·exact ⟨o,(hs.2 a ha).trans e⟩
 refine ⟨⟨.refl ..,d7 _,lv,λ z a b=>f8 b (Nat.not_lt.mpr a),λ z z e=>.inl e,λ a B e h z z=>(hs.2 a h).trans e,λ a B z h e=>⟨B,(hs.2 a h).trans e,rfl⟩⟩,⟨λ b B e=>?_,I.old,λ j h=>let ⟨o,e⟩:=I.live j h; lv _ _ e,I.nofr,I.nofz,I.inj,λ j B h=>?_,λ a c' h=>?_,λ a h=>⟨(I.frB a h).1,by
  by_cases ha:a=env.locals
  ·subst ha; obtain ⟨B,a3,a2,D,Y,_⟩:=hn; exact ⟨B,D,λ vs q=>by rw [Y] at q; cases q⟩
  ·obtain ⟨o,e,d⟩:=(I.frB a h).2; exact ⟨o,(hs.2 a ha).trans e,d⟩⟩,hg.trans I.gens,T.trans I.os,I.exc,I.tab0⟩,?_⟩
 ·refine (hs.2 b ?_).trans (I.keep b B e)
  rintro rfl; rw [(I.frB _ hL).1] at e; cases e
 ·obtain ⟨a,c',b,d⟩:=I.obj j B h
  exact ⟨a,c',(hs.2 (W.ρ j) λ q=>I.nofr j a (by rw [q]; exact hL)).trans b,d⟩
 ·refine ⟨(hs.2 a ?_).trans (I.frz a c' h).1,(I.frz a c' h).2⟩
  rintro rfl; exact (I.frz _ _ h).2 hL
 ·obtain ⟨m',a,b⟩:=L.loc
  refine ⟨L.kind,L.glob,L.bns,⟨_,hn,λ y u h=>?_⟩,L.cel,L.cod⟩
  have h':(wY x v Z.loc).lookup y=some u:=h
  rw [zB] at h'
  by_cases hy:y=x
  ·subst hy; rw [c7 rfl] at h'; cases h'; exact ⟨hx,c,by simp,hv⟩
  ·rw [d0 hy] at h'
   obtain ⟨p,c',q,r⟩:=b y u h'
   refine ⟨p,c',?_,r⟩
   refine (d0 hy).trans ?_
   have J:m' y=m y:=by
    obtain ⟨o1,a1,e1,g1,U,k1,f1⟩:=a
    obtain ⟨o2,a4,e2,g2,O,k2,S⟩:=X
    rw [g1] at g2; cases g2; rw [U] at O; cases O
    rw [← f1,← S]
   rw [← J]; exact q
end
set_option genCtorIdx true in
inductive Rs (α:Type) where
 | ok (a:α) (Z:St)
 | bad
noncomputable def Rs.bind {α β:Type} (r:Rs α) (f:α->St->Rs β):Rs β:=match r with
 | .ok a Z=>f a Z
 | .bad=>.bad
def NoE (e:g9) (s':d6):Prop:=False
theorem NoE.elim {C:Prop} {e:g9} {s':d6} (h:NoE e s'):C:=False.elim h
theorem NoE.after {e:g9} {s':d6} {u:g9} {s'':d6} {p:Prop} (a:p) (h:NoE e s'):NoE u s'':=False.elim h
def zJr (u:Obj):Prop:=∃ vs,u.data=.fields vs/\vs[2]? = some .none
def HdOk (P:Par) (A:n6):Prop:=(P.ex=none/\A.handled=none)\/∃ e u,P.ex=some (e,u)/\zJr u/\A.handled=some (.ref e)
theorem HdOk.plain {P:Par} {A:n6} (h:HdOk P A) (hc:P.ex=none):A.handled=none:=by
 rcases h with h | ⟨e,ob,q,_⟩
 ·exact h.2
 ·rw [hc] at q; cases q
structure Fm (P:Par) (lv:Nat) (fr:Ln) (A:n6) (env:Env):Prop where
 hL:env.locals∈fr
 handled:HdOk P A
 units:A.units+20 * lv+200 < cLine
 depth:A.depth+10 * lv+100 < iE
 frames:∃ l,A.frames=some l/\∀ e∈l,e.scope.kind≠.module/\∃ L,e.frame=some L/\L∈fr
section
variable (P:Par) (fr:Ln) (env:Env) (W:Wd) (Z:St) (s:d6)
inductive Post (r:Rs V) (c:g9) (s':d6):Prop where
 | mk (v:V) (Z':St) (W':Wd) (h1:r=.ok v Z') (h2:Step P fr env W Z s W' Z' s') (h3:VR W' Z'.nxt v c)
inductive PostB (r:Rs Bool) (b:Bool) (s':d6):Prop where
 | mk (Z':St) (W':Wd) (h1:r=.ok b Z') (h2:Step P fr env W Z s W' Z' s')
inductive PostL (r:Rs (List V)) (c:Lv) (s':d6):Prop where
 | mk (v:List V) (Z':St) (W':Wd) (h1:r=.ok v Z') (h2:Step P fr env W Z s W' Z' s') (h3:VRs W' Z'.nxt v c)
end
section
variable {P:Par} {fr:Ln} {A:n6} {env:Env} {W W':Wd} {Z Z':St} {s s':d6}
theorem Post.after {r:Rs V} {c:g9} {s'':d6} (a:Step P fr env W Z s W' Z' s') (b:Post P fr env W' Z' s' r c s''):Post P fr env W Z s r c s'' :=
 let ⟨v,Z'',W'',e,st,h⟩:=b; ⟨v,Z'',W'',e,a.trans st,h⟩
theorem PostB.after {r:Rs Bool} {c:Bool} {s'':d6} (a:Step P fr env W Z s W' Z' s') (b:PostB P fr env W' Z' s' r c s''):PostB P fr env W Z s r c s'' :=
 let ⟨Z'',W'',e,st⟩:=b; ⟨Z'',W'',e,a.trans st⟩
theorem PostL.after {r:Rs (List V)} {c:Lv} {s'':d6} (a:Step P fr env W Z s W' Z' s') (b:PostL P fr env W' Z' s' r c s''):PostL P fr env W Z s r c s'' :=
 let ⟨v,Z'',W'',e,st,h⟩:=b; ⟨v,Z'',W'',e,a.trans st,h⟩
theorem Rs.bind_ok {α β:Type} {r:Rs α} {f:α->St->Rs β} {a:α} {Z:St} (h:r=.ok a Z):r.bind f=f a Z:=by rw [h]; rfl
theorem Rs.bind_ne {α β:Type} {r:Rs α} {f:α->St->Rs β} (h:r.bind f≠.bad):r≠.bad:=by rintro rfl; exact h rfl
def OkE (P:Par) (fr:Ln) (A:n6) (env:Env) (t:Sem g9) (f:St->Rs V):Prop :=
 ∀ W Z s,Inv P fr W Z.toHp s->Loc P env W Z s.heap->f Z≠.bad->wpAny P.M A t (Post P fr env W Z s (f Z)) NoE s
def OkB (P:Par) (fr:Ln) (A:n6) (env:Env) (t:Sem Bool) (f:St->Rs Bool):Prop :=
 ∀ W Z s,Inv P fr W Z.toHp s->Loc P env W Z s.heap->f Z≠.bad->wpAny P.M A t (PostB P fr env W Z s (f Z)) NoE s
def OkL (P:Par) (fr:Ln) (A:n6) (env:Env) (t:Sem (Lv)) (f:St->Rs (List V)):Prop :=
 ∀ W Z s,Inv P fr W Z.toHp s->Loc P env W Z s.heap->f Z≠.bad->wpAny P.M A t (PostL P fr env W Z s (f Z)) NoE s
theorem qWc {α:Type} {t:Sem g9} {f:St->Rs V} {g:g9->Sem α} {k:V->St->Rs α'} {Q:α->d6->Prop} {E:Pv}
  (u:OkE P fr A env t f) (I:Inv P fr W Z.toHp s) (L:Loc P env W Z s.heap) (B:(f Z).bind k≠.bad)
  (D:∀ e s',NoE e s'->E e s')
  (hg:∀ v c W' Z' s',f Z=.ok v Z'->Step P fr env W Z s W' Z' s'->VR W' Z'.nxt v c->wpAny P.M A (g c) Q E s') :
  wpAny P.M A t (λ c s'=>wpAny P.M A (g c) Q E s') E s :=
 j0 (u W Z s I L (Rs.bind_ne B)) (λ c s' ⟨v,Z',W',e,st,hv⟩=>hg v c W' Z' s' e st hv) (λ e s' h=>D e s' h.elim)
end
set_option genCtorIdx true in
inductive Ov where
 | ok (v:V)
 | bad
noncomputable def Ov.st (r:Ov) (Z:St):Rs V:=match r with
 | .ok v=>.ok v Z
 | .bad=>.bad
noncomputable def asO:Option O->Option (List V)
 | some (.list xs)=>some xs
 | _=>Option.none
theorem qJg {o:Option O} {xs:List V} (h:asO o=some xs):o=some (.list xs):=by
 cases o with
 | none=>cases h
 | some o=>cases o with
  | list u=>cases h; rfl
  | _=>cases h
def qV (H:Hp):V->Option (List V)
 | .list xs=>some xs
 | .ref k=>asO (H.obj k)
 | _=>Option.none
def xP (H:Hp):V->Option Bool
 | .none=>some false
 | .bool b=>some b
 | .int i=>some (i != 0)
 | .mt _ _=>some true
 | v=>(qV H v).map λ xs=>!xs.isEmpty
noncomputable def qQ:V->Option Str
 | .str x=>some x
 | _=>Option.none
noncomputable def qU:V->Option Int
 | .int x=>some x
 | _=>Option.none
theorem qI {v:V} {x:Str}:qQ v=some x->v=.str x:=by
 cases v <;> intro h <;> first | exact g8 _ (j7 h) | exact zN1 h
theorem qK {v:V} {x:Int}:qU v=some x->v=.int x:=by
 cases v <;> intro h <;> first | exact g8 _ (j7 h) | exact zN1 h
theorem qP {α β:Type} {o:Option α} {f:α->β} {b:β} (h:o.elim b f≠b):∃ a,o=some a:=by
 cases o with
 | none=>exact f8 rfl h
 | some a=>exact ⟨a,rfl⟩
def qTs (f:Int->Int->Ov) (a b:V):Ov:=(qU a).elim .bad λ x=>(qU b).elim .bad λ y=>f x y
noncomputable def qGe:V->Option (List V)
 | .list x=>some x
 | _=>Option.none
theorem qDo {v:V} {x:List V}:qGe v=some x->v=.list x:=by
 cases v <;> intro h <;> first | exact g8 _ (j7 h) | exact zN1 h
noncomputable def qTh:V->Option (Nat×Nat)
 | .mt p e=>some (p,e)
 | _=>Option.none
theorem wR {v:V} {x:Nat×Nat}:qTh v=some x->v=.mt x.1 x.2:=by
 cases v <;> intro h <;> first | exact zN1 h | exact j7 h ▸ rfl
def qFe (H:Hp):V->Option (Nat×List V)
 | .ref k=>(asO (H.obj k)).map λ xs=>(k,xs)
 | _=>Option.none
theorem wQ {H:Hp} {v:V} {k:Nat} {xs:List V}:qFe H v=some (k,xs)->v=.ref k/\H.obj k=some (.list xs):=by
 cases v <;> intro h <;> first | exact zN1 h | skip
 obtain ⟨B,u,h2⟩:=Option.map_eq_some_iff.mp (show fU _ _=_ from h)
 cases h2
 exact ⟨rfl,qJg u⟩
def qVj (_:Hp) (a b:V):Ov :=
 (qU a).elim ((qQ a).elim ((qGe a).elim .bad λ xs=>(qGe b).elim .bad λ u=>if xs.length+u.length<=g0 then .ok (.list (xs++u)) else .bad)
  λ x=>(qQ b).elim .bad λ y=>if x.length+y.length<=g0 then .ok (.str (x++y)) else .bad) λ x=>(qU b).elim .bad λ y=>.ok (.int (x+y))
def qTg (x:Str) (b:V):Ov:=(qU b).elim .bad λ i=>if i=3/\x.length=1 then .ok (.str (x++x++x)) else .bad
def zNf (a b:V):Ov:=(qQ a).elim .bad λ x=>qTg x b
def qJc (H:Hp) (op:Operator) (a b:V):Ov:=match op with
 | .Add=>qVj H a b
 | .Sub=>qTs (λ x y=>.ok (.int (x - y))) a b
 | .Mult=>zNf a b
 | .FloorDiv=>qTs (λ x y=>if 0 < y/\y < 1000 then .ok (.int (x.fdiv y)) else .bad) a b
 | .Mod=>qTs (λ x y=>if y=0 then .bad else .ok (.int (x.fmod y))) a b
 | _=>.bad
def dat (H:Hp):Nat->V->Option PyData
 | 0,_=>Option.none
 | _+1,.none=>some .none
 | _+1,.bool b=>some (.bool b)
 | _+1,.int i=>some (.int i)
 | _+1,.str s=>some (.str s)
 | n+1,.list xs=>(xs.mapM (dat H n)).map .list
 | n+1,.tup xs=>(xs.mapM (dat H n)).map .tuple
 | n+1,.ref k=>(asO (H.obj k)).bind λ xs=>(xs.mapM (dat H n)).map .list
 | _,_=>Option.none
def eqB (H:Hp) (a b:V):Option Bool:=(dat H 8 a).bind λ x=>(dat H 8 b).map λ y=>v7 x y
def zEu (f:Int->Int->Bool) (a b:V):Option Bool:=(qU a).bind λ x=>(qU b).map λ y=>f x y
def inL (H:Hp) (a b:V):Option Bool:=(dat H 8 a).bind λ x=>(qV H b).bind λ u=>(u.mapM (dat H 7)).map λ l=>l.any λ y=>v7 y x
def inB (H:Hp) (a b:V):Option Bool:=(qQ b).elim (inL H a b) λ x=>(qQ a).map λ y=>nH x y
noncomputable def qIg:V->Option Bool
 | .none=>some true
 | .int _=>some false
 | .list _=>some false
 | _=>Option.none
def isB (a b:V):Option Bool:=match b with
 | .none=>qIg a
 | _=>Option.none
def zQd (H:Hp) (op:CmpOp) (a b:V):Option Bool:=match op with
 | .Eq=>eqB H a b
 | .NotEq=>(eqB H a b).map (!·)
 | .Lt=>zEu (λ x y=>decide (x < y)) a b
 | .Gt=>zEu (λ x y=>decide (x > y)) a b
 | .GtE=>zEu (λ x y=>decide (x ≥ y)) a b
 | .In=>inB H a b
 | .Is=>isB a b
 | .IsNot=>(isB a b).map (!·)
 | _=>Option.none
noncomputable def qGt:Option Bool->Ov
 | some b=>.ok (.bool b)
 | Option.none=>.bad
def vG (H:Hp) (op:CmpOp) (a b:V):Ov:=qGt (zQd H op a b)
def zHg (v:V):Ov:=(qU v).elim .bad λ a=>.ok (.int (-a))
noncomputable def vR (i:Int):Bool:=decide (-(2 ^ 63:Int)<=i) && decide (i < 2 ^ 63)
def qRf (H:Hp):V->Option (List V)
 | .tup xs=>some xs
 | v=>qV H v
def wF (H:Hp) (a i:V):Ov:=(qU i).elim .bad λ k=>if vR k=true then (match qQ a with
  | some x=>((seqIndex? k x.length).bind (x.cps[·]?)).elim .bad λ c=>.ok (.str ⟨#[c]⟩)
  | Option.none=>(qRf H a).elim .bad λ xs=>((seqIndex? k xs.length).bind (xs[·]?)).elim .bad .ok) else .bad
noncomputable def qJf:V->Option (Option Int)
 | .none=>some Option.none
 | .int i=>some (some i)
 | _=>Option.none
noncomputable def cut {α:Type} (xs:List α) (u hi:Option Int):List α :=
 (xs.drop (u.elim 0 (clipAt xs.length))).take (hi.elim xs.length (clipAt xs.length) - u.elim 0 (clipAt xs.length))
def wX (H:Hp) (a u hi:V):Ov:=(qJf u).elim .bad λ l=>(qJf hi).elim .bad λ h=>match qQ a with
 | some x=>.ok (.str ⟨(cut x.cps.toList l h).toArray⟩)
 | Option.none=>(qV H a).elim .bad λ xs=>.ok (.list (cut xs l h))
def zV (H:Hp):V->Option (List V)
 | .tup xs=>some xs
 | .rng a b c=>some ((lT (m8 a b c).toNat).map λ (i:Nat)=>.int (a+(i:Int) * c))
 | v=>qV H v
structure Cx where
 lvl:Nat:=0
 calm:Bool:=false
 gl:Str->Option V
 app:V->List V->Hp->Rs V
 get:V->Str->Hp->Option (V×List V)
 fld:V->Str->Hp->Ov
noncomputable def Rs.lift {α:Type} (r:Rs α) (Z:St):Rs α:=match r with
 | .ok a Z'=>.ok a { Z with toHp:=Z'.toHp }
 | .bad=>.bad
def qBc (b:V) (Z:St) (t:St->Rs V):Rs (Option V):=match xP Z.toHp b with
 | some true=>(t Z).bind λ r a0=>.ok (some r) a0
 | some false=>.ok Option.none Z
 | Option.none=>.bad
open Classical in
def turns (v:V) (all:List V) (f:V->St->Rs (Option V)):List V->St->Rs (List V)
 | [],Z=>if zV Z.toHp v=some all then .ok [] Z else .bad
 | x::r,Z=>if zV Z.toHp v=some all then (match f x Z with
  | .ok o a0=>(turns v all f r a0).bind λ vs a7=>.ok (o.toList++vs) a7
  | _=>.bad) else .bad
open Classical in
theorem qBx {v:V} {all:List V} {f:V->St->Rs (Option V)} {Z:St}:turns v all f [] Z=if zV Z.toHp v=some all then .ok [] Z else .bad:=rfl
open Classical in
theorem qBy {v:V} {all:List V} {f:V->St->Rs (Option V)} {x:V} {r:List V} {Z:St}:turns v all f (x::r) Z=if zV Z.toHp v=some all then (match f x Z with
  | .ok o a0=>(turns v all f r a0).bind λ vs a7=>.ok (o.toList++vs) a7
  | _=>.bad) else .bad:=rfl
noncomputable def jH {α:Type} (v:V) (Z:St) (k:List V->St->Rs α):Rs α:=match v with
 | .list xs=>k xs Z
 | _=>.bad
noncomputable def fits (n:Nat) (r:Rs V):Rs V:=if n<=g0 then r else .bad
def condR (v:V) (Z:St) (t e:St->Rs V):Rs V:=match xP Z.toHp v with
 | some true=>t Z
 | some false=>e Z
 | Option.none=>.bad
noncomputable def qOa (Z:St) (v:V):Rs V:=match Z.tbl with
 | some (k,q)=>(match Z.obj k with
  | some (.tab q')=>if q'=q then .ok v Z else .bad
  | _=>.bad)
 | Option.none=>.bad
variable (cx:Cx) in
def ev:X->St->Rs V
 | .none,Z=>.ok .none Z
 | .bool b,Z=>.ok (.bool b) Z
 | .int i,Z=>.ok (.int i) Z
 | .str s,Z=>.ok (.str s) Z
 | .var x,Z=>match Z.loc.lookup x with | some v=>.ok v Z | Option.none=>.bad
 | .cv x,Z=>match Z.cel.lookup x with
  | some k=>(match Z.obj k with | some (.cell (some v))=>.ok v Z | _=>.bad)
  | Option.none=>.bad
 | .glob x,Z=>match cx.gl x with | some v=>.ok v Z | Option.none=>.bad
 | .bin op a b,Z=>(ev a Z).bind λ u a0=>(ev b a0).bind λ D a7=>(qJc a7.toHp op u D).st a7
 | .neg a,Z=>(ev a Z).bind λ u a0=>(zHg u).st a0
 | .not a,Z=>(ev a Z).bind λ u a0=>match xP a0.toHp u with | some b=>.ok (.bool !b) a0 | Option.none=>.bad
 | .cmp op a b,Z=>(ev a Z).bind λ u a0=>(ev b a0).bind λ D a7=>(vG a7.toHp op u D).st a7
 | .and a b,Z=>(ev a Z).bind λ u a0=>condR u a0 (ev b) (λ a0=>.ok u a0)
 | .or a b,Z=>(ev a Z).bind λ u a0=>condR u a0 (λ a0=>.ok u a0) (ev b)
 | .ite c a b,Z=>(ev c Z).bind λ O a0=>condR O a0 (ev a) (ev b)
 | .idx a i,Z=>(ev a Z).bind λ u a0=>(ev i a0).bind λ B a7=>(wF a7.toHp u B).st a7
 | .slc a lo hi,Z=>(ev a Z).bind λ u a0=>(ev lo a0).bind λ L a7=>(ev hi a7).bind λ J aG=>(wX aG.toHp u L J).st aG
 | .attr o f,Z=>(ev o Z).bind λ vo a0=>(cx.fld vo f a0.toHp).st a0
 | .list es,Z=>(ev es Z).bind λ vs a0=>jH vs a0 λ xs a0=>fits xs.length (.ok (.list xs) a0)
 | .tup es,Z=>(ev es Z).bind λ vs a0=>jH vs a0 λ xs a0=>fits xs.length (.ok (.tup xs) a0)
 | .nil,Z=>.ok (.list []) Z
 | .cons a b,Z=>(ev a Z).bind λ u a0=>(ev b a0).bind λ vs a7=>jH vs a7 λ xs a7=>.ok (.list (u::xs)) a7
 | .call f as,Z=>(ev f Z).bind λ vf a0=>(ev as a0).bind λ vs a7=>jH vs a7 λ xs a7=>(cx.app vf xs a7.toHp).lift a7
 | .meth o m as,Z=>(ev o Z).bind λ vo a0=>match cx.get vo m a0.toHp with
  | some (vf,first)=>(ev as a0).bind λ vs a7=>jH vs a7 λ xs a7=>(cx.app vf (first++xs) a7.toHp).lift a7
  | Option.none=>.bad
 | .comp elt x it cond,Z=>if cx.calm=true then .bad else (ev it Z).bind λ B a0=>match zV a0.toHp B with
  | some xs=>(turns B xs (λ v a7=>(ev cond { a7 with loc:=[(x,v)],cel:=a0.cel,tbl:=Option.none }).bind λ b aG=>qBc b aG (ev elt)) xs a0).bind λ vs a7=>fits vs.length (.ok (.list vs) { a0 with toHp:=a7.toHp })
  | Option.none=>.bad
 | .lam ps b,Z=>qOa Z (.clo ps b Z.cel)
 | .named x e,Z=>(ev e Z).bind λ v a0=>.ok v (a0.set x v)
 | .newl es,Z=>(ev es Z).bind λ vs a0=>jH vs a0 λ xs a0=>fits xs.length (.ok (.ref a0.nxt) (a0.add (.list xs)))
section
variable {P:Par} {fr:Ln} {A:n6} {env:Env} {W:Wd} {Z:St} {s:d6}
theorem vN:(g0:Int) < 2 ^ 63:=by unfold g0; decide
theorem qM {r:Rs V} {v:V} {c:g9} {W':Wd} {Z':St} {s':d6} (e:r=.ok v Z') (st:Step P fr env W Z s W' Z' s') (h:VR W' Z'.nxt v c):Post P fr env W Z s r c s':=⟨v,Z',W',e,st,h⟩
theorem xL (I:Inv P fr W Z.toHp s) {v:V} {c:g9} {xs:List V} (hv:VR W Z.nxt v c) (e:qV Z.toHp v=some xs) :
  ∃ a items,c=.ref a/\s.heap.IsList a items/\VRs W Z.nxt xs items.toList/\items.size<=g0:=by
 have hv:=hv.dat
 cases v with
 | list =>
  obtain ⟨_,_,_,_,rfl,a,b,d,z,r,_⟩:=hv
  cases e; exact ⟨_,_,rfl,⟨_,(I.frz _ _ a).1,b,_,d⟩,r,z⟩
 | ref =>
  obtain ⟨rfl,h⟩:=hv
  obtain ⟨_,u,hg,hr⟩:=I.obj _ _ (qJg e)
  obtain ⟨_,_,rfl,r,z⟩:=hr.inv_list
  exact ⟨_,_,rfl,⟨_,hg,rfl,_,rfl⟩,r,z⟩
 | _=>exact zN1 e
theorem uH:typeLookup (.type "re.Match") "__bool__" = pure none:=by rw [bI,n9]; kernel_rfl
theorem qAk:typeLookup (.type "re.Match") "__len__" = pure none:=by rw [bI,n9]; kernel_rfl
theorem qHh {M:Model} {E:Pv} {a:Nat} {Q:Bool->d6->Prop} (u:s.TypeIs (.ref a) "re.Match") (h:Q true s):wpAny M A (truthy (.ref a)) Q E s:=by
 unfold truthy
 refine d3 (wpAny_callSpecial?_none u uH ?_)
 refine d3 (wpAny_specialOf u qAk ?_)
 exact d9 h
theorem truthy_ok {E:Pv} (I:Inv P fr W Z.toHp s) {v:V} {c:g9} {b:Bool} {Q:Bool->d6->Prop} (hv:VR W Z.nxt v c) (e:xP Z.toHp v=some b)
  (h:∀ t,Q b { s with toks:=t }):wpAny P.M A (truthy c) Q E s:=by
 have B:∀ xs,qV Z.toHp v=some xs->b=(!xs.isEmpty)->wpAny P.M A (truthy c) Q E s:=λ xs hx J=>by
  obtain ⟨a,items,rfl,D,hr,L⟩:=xL I hv hx
  refine wpAny_truthy_list D (Int.lt_of_le_of_lt (Int.ofNat_le.mpr L) vN) ?_
  have e2:items.isEmpty=xs.isEmpty:=by
   rw [← Array.isEmpty_toList]
   revert hr
   generalize items.toList=l
   intro hr
   cases hr <;> rfl
  rw [e2,← J]; exact h _
 have list:(qV Z.toHp v).map (λ xs=>!xs.isEmpty)=some b->wpAny P.M A (truthy c) Q E s:=λ q =>
  let ⟨xs,h1,h2⟩:=Option.map_eq_some_iff.mp q
  B xs h1 h2.symm
 refine bC λ u=>?_
 replace list:=λ q=>u (list q)
 clear B
 have hv:=hv.dat
 cases v with
 | none=>obtain rfl:=hv; cases e; exact u (truthy_none (h s.toks))
 | bool b=>obtain rfl:=hv; cases e; exact u (wpAny_truthy_bool (h s.toks))
 | int i=>obtain ⟨_,rfl⟩:=hv; cases e; exact u (PySem.P.truthy_int (h s.toks))
 | mt=>obtain ⟨_,_,_,_,_,_,_,_,_,rfl,a,b,_⟩:=hv; cases e; exact u (qHh ⟨_,(I.frz _ _ a).1,b⟩ (h s.toks))
 | list=>exact list e
 | ref=>exact list e
 | _=>exact zN1 e
theorem kP {x y:Str} (hx:t5 x=true) (hy:t5 y=true):t5 (x++y)=true:=by
 show (x.cps++y.cps).all _=true
 rw [Array.all_append,d8]; exact ⟨hx,hy⟩
theorem VR.strLe {W:Wd} {n:Nat} {x:Str} {c:g9} (h:VR W n (.str x) c):x.length<=g0:=let ⟨_,_,a,_⟩:=h.inv_str; a
theorem jK (I:Inv P fr W Z.toHp s) (L:Loc P env W Z s.heap) {xs:List V} {items:Array g9} (hr:VRs W Z.nxt xs items.toList) (u:items.size<=g0) {s':d6} (e:s'.heap=s.heap.push { cls:=.type "list", data:=.seq items }) (hg:s'.gens=s.gens) (B:s'.os=s.os) :
  Post P fr env W Z s (.ok (.list xs) Z) (.ref s.heap.objs.size) s':=by
 have st:=Step.freeze I L { cls:=.type "list", data:=.seq items } rfl e hg B
 refine ⟨_,Z,_,rfl,st,.list (o:={ cls:=.type "list", data:=.seq items }) (items:=items) (e:=0) ?_ rfl rfl u (hr.mono st.nx.wle (d7 _)) rfl⟩
 show (if s.heap.objs.size=s.heap.objs.size then _ else _)=_
 rw [c7 rfl]
theorem qTf (I:Inv P fr W Z.toHp s) (L:Loc P env W Z s.heap) {xs:List V} {items:Array g9} (hr:VRs W Z.nxt xs items.toList) (u:items.size<=g0) {s':d6} (e:s'.heap=s.heap.push { cls:=.type "tuple", data:=.seq items }) (hg:s'.gens=s.gens) (B:s'.os=s.os) :
  Post P fr env W Z s (.ok (.tup xs) Z) (.ref s.heap.objs.size) s':=by
 have st:=Step.freeze I L { cls:=.type "tuple", data:=.seq items } rfl e hg B
 refine ⟨_,Z,_,rfl,st,.tup (o:={ cls:=.type "tuple", data:=.seq items }) (items:=items) (e:=0) ?_ rfl rfl u (hr.mono st.nx.wle (d7 _))⟩
 show (if s.heap.objs.size=s.heap.objs.size then _ else _)=_
 rw [c7 rfl]
theorem qFt {x y:Str} (h:(x.length == 0)=true):x++y=y:=by
 have u:x.cps.size=0:=by simpa [Str.length] using h
 have:x.cps = #[]:=w9 u
 show Str.mk (x.cps++y.cps)=y
 rw [this]; simp
theorem qFs {x y:Str} (h:(y.length == 0)=true):x++y=x:=by
 have u:y.cps.size=0:=by simpa [Str.length] using h
 have:y.cps = #[]:=w9 u
 show Str.mk (x.cps++y.cps)=x
 rw [this]; simp
theorem qDw {f:Int->Int->Ov} {a b:V} (h:(qTs f a b).st Z≠.bad):∃ x y,a=.int x/\b=.int y:=by
 obtain ⟨x,e1⟩:=qP (o:=qU a) (f:=λ x=>(qU b).elim Ov.bad λ y=>f x y) (b:=Ov.bad) λ q=>h (g8 (Ov.st · Z) q)
 have e:qTs f a b=(qU b).elim Ov.bad λ y=>f x y:=by unfold qTs; rw [e1]; rfl
 obtain ⟨y,e2⟩:=qP (o:=qU b) (f:=λ y=>f x y) (b:=Ov.bad) λ q=>h (g8 (Ov.st · Z) (e.trans q))
 exact ⟨x,y,qK e1,qK e2⟩
set_option tactic.hygienic true in
theorem zJo (I:Inv P fr W Z.toHp s) (L:Loc P env W Z s.heap) {a b:V} {ca cb:g9} (ha:VR W Z.nxt a ca) (hb:VR W Z.nxt b cb) (B:(qVj Z.toHp a b).st Z≠.bad) :
  wpAny P.M A (binaryOp .Add ca cb) (Post P fr env W Z s ((qVj Z.toHp a b).st Z)) NoE s:=by
 refine bC λ O=>?_
 cases e1:qU a with
 | some i =>
  obtain rfl:=qK e1
  obtain ⟨j,e2⟩:=qP (o:=qU b) (f:=λ y=>Ov.ok (.int (i+y))) (b:=.bad) λ q=>B (g8 (Ov.st · Z) q)
  obtain rfl:=qK e2
  obtain ⟨_,rfl⟩:=ha.inv_int; obtain ⟨_,rfl⟩:=hb.inv_int
  exact O (PySem.P.add_int (qM rfl (Step.toks I L _) (.int ..)))
 | none=>cases e2:qQ a with
  | some x =>
   obtain rfl:=qI e2
   obtain ⟨y,e3⟩:=qP (o:=qQ b) (f:=λ y=>if x.length+y.length<=g0 then Ov.ok (.str (x++y)) else .bad) (b:=.bad) λ q=>B (g8 (Ov.st · Z) q)
   obtain rfl:=qI e3
   by_cases u:x.length+y.length<=g0
   ·have e:qVj Z.toHp (.str x) (.str y)=.ok (.str (x++y)):=c7 u
    rw [e] at O
    obtain ⟨_,rfl,hx,T⟩:=ha.inv_str; obtain ⟨_,rfl,hy,X⟩:=hb.inv_str
    refine O (PySem.P.add_str ?_)
    split
    ·rename_i h; exact qM rfl (Step.refl I L) (by rw [qFt h]; exact .str _ _ hy X)
    ·split
     ·rename_i h; exact qM rfl (Step.refl I L) (by rw [qFs h]; exact .str _ _ hx T)
     ·have S:(x++y).length<=g0:=by show (x.cps++y.cps).size<=_; rw [gX]; exact u
      exact ⟨S,qM rfl (Step.toks I L _) (.str _ _ S (kP T X))⟩
   ·exact B (g8 (Ov.st · Z) (d0 u))
  | none =>
   have e:qVj Z.toHp a b=(qGe a).elim .bad λ xs=>(qGe b).elim .bad λ J=>if xs.length+J.length<=g0 then .ok (.list (xs++J)) else .bad:=by unfold qVj; rw [e1,e2]; rfl
   rw [e] at B O
   obtain ⟨xs,e3⟩:=qP (λ q=>B (g8 (Ov.st · Z) q))
   obtain rfl:=qDo e3
   obtain ⟨J,e4⟩:=qP (o:=qGe b) (f:=λ J=>if xs.length+J.length<=g0 then Ov.ok (.list (xs++J)) else .bad) (b:=.bad) λ q=>B (g8 (Ov.st · Z) q)
   obtain rfl:=qDo e4
   by_cases u:xs.length+J.length<=g0
   ·obtain ⟨l,items,a8,S,hr,hz⟩:=xL I ha (xs:=xs) rfl
    obtain ⟨b,D,ab,a5,U,ah⟩:=xL I hb (xs:=J) rfl
    obtain ⟨⟨cls,dd,data,sl⟩,ho,hc,n,hd⟩:=id S
    obtain ⟨⟨ae,a9,ac,a4⟩,Y,a7,n2,aa⟩:=id a5
    cases hc; cases hd; cases a7; cases aa
    have h1:=hr.length
    have h2:=U.length
    rw [h9] at h1 h2
    have hs:items.size+D.size<=g0:=by rw [h1,h2]; exact u
    refine O ?_
    show wpAny _ _ _ (Post P fr env W Z s ((if xs.length+J.length<=g0 then Ov.ok (.list (xs++J)) else .bad).st Z)) NoE s
    rw [c7 u,a8,ab]
    refine concat_meets ⟨_,ho,rfl⟩ ⟨_,Y,rfl⟩ noFill_list_add seq_list_add PySem.F.slot_list_add PySem.F.entry_list_add (PySem.F.args_list_add_2 _ _) (list_addW l b items D n n2 dd a9 sl a4 hs) ⟨ho,Y,?_⟩
    exact jK (items:=items++D) I L (by rw [gN]; exact hr.append U) (by rw [gX]; exact hs) rfl rfl rfl
   ·exact B (g8 (Ov.st · Z) (d0 u))
set_option tactic.hygienic true in
theorem zHj (I:Inv P fr W Z.toHp s) (L:Loc P env W Z s.heap) {x:Str} {b:V} {S O:g9} (ha:VR W Z.nxt (.str x) S) (U:VR W Z.nxt b O) (B:(qTg x b).st Z≠.bad) :
  wpAny P.M A (binaryOp .Mult S O) (Post P fr env W Z s ((qTg x b).st Z)) NoE s:=by
 revert B
 unfold qTg
 intro B
 obtain ⟨i,hi⟩:=qP (α:=Int) (λ q=>B (by rw [q]; rfl))
 obtain rfl:=qK hi
 revert B
 show Ov.st (if i=3/\x.length=1 then _ else _) Z≠_->wpAny _ _ _ (Post P fr env W Z s (Ov.st (if i=3/\x.length=1 then _ else _) Z)) NoE _
 intro B
 split at B
 ·rename_i h
  rw [c7 h]
  obtain ⟨rfl,J⟩:=h
  obtain ⟨t,rfl,X,D⟩:=ha.inv_str
  obtain ⟨u,rfl⟩:=U.inv_int
  have e:Txt.mul x 3=x++x++x:=by
   unfold Txt.mul
   rw [zX1,d0 (by rw [J]; decide)]
   show (⟨#[]++x.cps++x.cps++x.cps⟩:Str)=⟨x.cps++x.cps++x.cps⟩
   rw [Array.empty_append]
  have T:(x++x++x).length=3:=by
   show (x.cps++x.cps++x.cps).size=3
   have:x.cps.size=1:=J
   rw [gX,gX,this]
  refine SB.mul ⟨by decide,λ z z=>by rw [J]; decide,λ z z=>by rw [J]; decide⟩ λ Y k=>?_
  rw [e]
  exact qM rfl (Step.toks I L _) (.str _ _ (by rw [T]; decide) (kP (kP D D) D))
 ·exact f8 rfl B
theorem zHi (I:Inv P fr W Z.toHp s) (L:Loc P env W Z s.heap) {a b:V} {B D:g9} (ha:VR W Z.nxt a B) (J:VR W Z.nxt b D) (u:(zNf a b).st Z≠.bad) :
  wpAny P.M A (binaryOp .Mult B D) (Post P fr env W Z s ((zNf a b).st Z)) NoE s:=by
 obtain ⟨x,hx⟩:=qP (show (qQ a).elim Ov.bad (λ x=>qTg x b)≠.bad from λ q=>u (by show ((qQ a).elim Ov.bad (λ x=>qTg x b)).st Z=.bad; rw [q]; rfl))
 obtain rfl:=qI hx
 exact zHj I L ha J u
set_option tactic.hygienic true in
theorem zJb (I:Inv P fr W Z.toHp s) (L:Loc P env W Z s.heap) {op:Operator} {a b:V} {J O:g9} (ha:VR W Z.nxt a J) (B:VR W Z.nxt b O) (u:(qJc Z.toHp op a b).st Z≠.bad) :
  wpAny P.M A (binaryOp op J O) (Post P fr env W Z s ((qJc Z.toHp op a b).st Z)) NoE s:=by
 cases op with
 | Add=>exact zJo I L ha B u
 | Sub =>
  obtain ⟨x,y,rfl,rfl⟩:=qDw u
  obtain ⟨_,rfl⟩:=ha.inv_int; obtain ⟨_,rfl⟩:=B.inv_int
  exact PySem.P.sub_int (qM rfl (Step.toks I L _) (.int ..))
 | Mult=>exact zHi I L ha B u
 | FloorDiv =>
  obtain ⟨x,y,rfl,rfl⟩:=qDw u
  revert u
  show (if 0 < y/\y < 1000 then _ else Ov.bad).st Z≠.bad->wpAny _ _ _ (Post P fr env W Z s ((if 0 < y/\y < 1000 then _ else Ov.bad).st Z)) NoE _
  obtain ⟨_,rfl⟩:=ha.inv_int; obtain ⟨_,rfl⟩:=B.inv_int
  intro u
  split at u
  ·rename_i D
   rw [c7 D]
   exact floordiv_int (by lia) (qM rfl (Step.toks I L _) (.int ..)) (hp:=.inl (PyProof.noPylong_small (by lia)))
  ·exact f8 rfl u
 | Mod =>
  obtain ⟨x,y,rfl,rfl⟩:=qDw u
  revert u
  show (if y=0 then Ov.bad else _).st Z≠.bad->wpAny _ _ _ (Post P fr env W Z s ((if y=0 then Ov.bad else _).st Z)) NoE _
  obtain ⟨_,rfl⟩:=ha.inv_int; obtain ⟨_,rfl⟩:=B.inv_int
  intro u
  split at u
  ·exact f8 rfl u
  ·rename_i D; rw [d0 D]; exact mod_int' D (qM rfl (Step.toks I L _) (.int ..))
 | _=>exact f8 rfl u
inductive All2 {α β:Type} (R:α->β->Prop):List α->List β->Prop
 | nil:All2 R [] []
 | cons {a b l m}:R a b->All2 R l m->All2 R (a::l) (b::m)
theorem vZ {α β:Type} {f:α->Option β}:∀ {l:List α} {r:List β},l.mapM f=some r->All2 (λ a b=>f a=some b) l r
 | [],r,h=>by simp at h; subst h; exact .nil
 | a::l,r,h=>by
  rw [oJ] at h
  obtain ⟨b,B,h⟩:=Option.bind_eq_some_iff.mp h
  obtain ⟨D,u,h⟩:=Option.bind_eq_some_iff.mp h
  cases h
  exact .cons B (vZ u)
theorem wP {h:mS} {W:Wd} {n m:Nat} {f:V->Option PyData} (D:∀ v c d,VR W n v c->f v=some d->∃ as,Reads h c d as/\d.canLay0=true/\d.depth<=m)
  {xs:List V} {cs:Lv} {u:List PyData} (hv:VRs W n xs cs):All2 (λ a b=>f a=some b) xs u->∃ as,ReadsAll h cs u as/\PyData.canLayAll0 u=true/\nQ u<=m:=by
 refine hv.ind (C:=λ xs cs=>∀ u,All2 (λ a b=>f a=some b) xs u->∃ as,ReadsAll h cs u as/\PyData.canLayAll0 u=true/\nQ u<=m) ?_ ?_ u
 ·intro u q
  cases q
  exact ⟨[],.nil,rfl,m9 _⟩
 ·intro x c xs cs a b J u q
  cases q with
  | cons e r =>
   obtain ⟨as,L,h2,h3⟩:=D _ _ _ a e
   obtain ⟨O,g1,g2,B⟩:=J _ r
   refine ⟨_,.cons L g1,?_,Nat.max_le.mpr ⟨h3,B⟩⟩
   show (_ && _)=true
   rw [h2,g2]; rfl
theorem wV (I:Inv P fr W Z.toHp s):∀ (m:Nat) (v:V) (c:g9) (d:PyData),VR W Z.nxt v c->dat Z.toHp m v=some d->∃ as,Reads s.heap c d as/\d.canLay0=true/\d.depth<=m:=by
 intro m
 induction m with
 | zero=>intro v c d hv e; cases e
 | succ m D =>
  intro v c d hv e
  have hv:=hv.dat
  cases v with
  | none=>obtain rfl:=hv; cases e; exact ⟨_,.none,rfl,m9 _⟩
  | bool b=>obtain rfl:=hv; cases e; exact ⟨_,.bool b,rfl,m9 _⟩
  | int i=>obtain ⟨t,rfl⟩:=hv; cases e; exact ⟨_,.int i t,rfl,m9 _⟩
  | str x=>obtain ⟨t,rfl,_,o⟩:=hv; cases e; exact ⟨_,.str x t,o,m9 _⟩
  | list =>
   obtain ⟨_,_,_,_,rfl,a,b,J,z,r,_⟩:=hv
   obtain ⟨L,B,rfl⟩:=Option.map_eq_some_iff.mp (show fU _ (List.mapM _ _)=some d from e)
   obtain ⟨as,g1,g2,u⟩:=wP D r (vZ B)
   exact ⟨_,.list (I.frz _ _ a).1 b J g1,g2,u9 u⟩
  | tup =>
   obtain ⟨_,_,_,_,rfl,a,b,J,z,r⟩:=hv
   obtain ⟨L,B,rfl⟩:=Option.map_eq_some_iff.mp (show fU _ (List.mapM _ _)=some d from e)
   obtain ⟨as,g1,g2,u⟩:=wP D r (vZ B)
   exact ⟨_,.tuple (I.frz _ _ a).1 b J g1,g2,u9 u⟩
  | ref =>
   obtain ⟨rfl,hk⟩:=hv
   obtain ⟨T,O,e⟩:=Option.bind_eq_some_iff.mp (show Option.bind (asO _) _=some d from e)
   obtain ⟨L,B,rfl⟩:=Option.map_eq_some_iff.mp e
   obtain ⟨_,S,hg,hr⟩:=I.obj _ _ (qJg O)
   obtain ⟨_,_,rfl,r,z⟩:=hr.inv_list
   obtain ⟨as,g1,g2,u⟩:=wP D r (vZ B)
   exact ⟨_,.list hg rfl rfl g1,g2,u9 u⟩
  | _=>exact zN1 e
theorem qVb {o:Option Bool} (h:(qGt o).st Z≠.bad):∃ b,o=some b:=by
 cases o with
 | none=>exact f8 rfl h
 | some b=>exact ⟨b,rfl⟩
theorem qPw {o:Option Bool} {b:Bool} (h:o.map (!·)=some b):o=some !b:=by
 cases o with
 | none=>cases h
 | some c=>cases h; simp
theorem qQu {H:Hp} {a b:V} {r:Bool} (h:eqB H a b=some r):∃ x y,dat H 8 a=some x/\dat H 8 b=some y/\r=v7 x y:=by
 obtain ⟨x,u,h2⟩:=Option.bind_eq_some_iff.mp h
 obtain ⟨y,h3,rfl⟩:=Option.map_eq_some_iff.mp h2
 exact ⟨x,y,u,h3,rfl⟩
theorem qDj {f:Int->Int->Bool} {a b:V} {r:Bool} (h:zEu f a b=some r):∃ x y,a=.int x/\b=.int y/\r=f x y:=by
 obtain ⟨x,e1,h⟩:=Option.bind_eq_some_iff.mp h
 obtain ⟨y,e2,h⟩:=Option.map_eq_some_iff.mp h
 exact ⟨x,y,qK e1,qK e2,h.symm⟩
theorem qQg {a b:V} {r:Bool}:isB a b=some r->b=.none/\qIg a=some r:=by
 cases b <;> intro h <;> first | exact ⟨rfl,h⟩ | exact zN1 h
theorem qGj {W:Wd} {n:Nat} {a:V} {u:g9} {r:Bool} (ha:VR W n a u):qIg a=some r->plainIs u .none=true/\(u == .none)=r:=by
 have hv:=ha.dat
 clear ha
 cases a <;> intro h <;> first | exact zN1 h | (obtain rfl:=hv; exact ⟨rfl,j7 h⟩) | (obtain ⟨_,rfl⟩:=hv; exact ⟨rfl,j7 h⟩) | (obtain ⟨_,_,_,_,rfl,_⟩:=hv; exact ⟨rfl,j7 h⟩)
theorem zIy {lv:Nat} (F:Fm P lv fr A env) (I:Inv P fr W Z.toHp s) (L:Loc P env W Z s.heap) {op:CmpOp} {a b:V} {O S:g9} (ha:VR W Z.nxt a O) (D:VR W Z.nxt b S) {r:Bool} (hr:zQd Z.toHp op a b=some r)
  {Q:Pv} {E:Pv} (B:Q (.bool r) s):wpAny P.M A (compareOp op O S) Q E s:=by
 have U:=F.units
 have two:∀ {x y:PyData},dat Z.toHp 8 a=some x->dat Z.toHp 8 b=some y->∃ as J,Reads s.heap O x as/\Reads s.heap S y J/\x.canLay0=true/\y.canLay0=true/\A.units+min x.depth y.depth < cLine:=by
  intro x y u h2
  obtain ⟨as,r1,r2,T⟩:=wV I 8 a O x ha u
  obtain ⟨J,g1,g2,g3⟩:=wV I 8 b S y D h2
  exact ⟨as,J,r1,g1,r2,g2,m1 (dR (n4 _ (20 * lv)) (d5 (gW _ _) (d5 T (by decide)))) U⟩
 cases op with
 | Eq =>
  obtain ⟨x,y,u,h2,rfl⟩:=qQu hr
  obtain ⟨as,J,X,q2,q3,Y,q5⟩:=two u h2
  exact SeqAt.compareEq_reads X q2 q3 Y q5 B
 | NotEq =>
  obtain ⟨x,y,u,h2,h3⟩:=qQu (qPw hr)
  obtain ⟨as,J,X,q2,q3,Y,q5⟩:=two u h2
  exact SeqAt.compareNe_reads X q2 q3 Y q5 (by rw [← h3,not_not]; exact B)
 | Lt=>obtain ⟨x,y,rfl,rfl,rfl⟩:=qDj hr; obtain ⟨_,rfl⟩:=ha.inv_int; obtain ⟨_,rfl⟩:=D.inv_int; exact PySem.P.lt_int B
 | Gt=>obtain ⟨x,y,rfl,rfl,rfl⟩:=qDj hr; obtain ⟨_,rfl⟩:=ha.inv_int; obtain ⟨_,rfl⟩:=D.inv_int; exact PySem.P.gt_int B
 | GtE=>obtain ⟨x,y,rfl,rfl,rfl⟩:=qDj hr; obtain ⟨_,rfl⟩:=ha.inv_int; obtain ⟨_,rfl⟩:=D.inv_int; exact PySem.P.ge_int B
 | In =>
  replace hr:(qQ b).elim (inL Z.toHp a b) (λ x=>(qQ a).map λ y=>nH x y)=some r:=hr
  cases hx:qQ b with
  | some x =>
   rw [hx] at hr
   obtain ⟨y,u,rfl⟩:=Option.map_eq_some_iff.mp hr
   obtain rfl:=qI hx
   obtain rfl:=qI u
   obtain ⟨_,rfl,_⟩:=ha.inv_str; obtain ⟨_,rfl,_⟩:=D.inv_str
   exact PySem.P.in_str B
  | none =>
   rw [hx] at hr
   obtain ⟨x,u,h2⟩:=Option.bind_eq_some_iff.mp (show Option.bind _ _=_ from hr)
   obtain ⟨ys,h3,h4⟩:=Option.bind_eq_some_iff.mp h2
   obtain ⟨l,h5,rfl⟩:=Option.map_eq_some_iff.mp h4
   obtain ⟨as,r1,r2,T⟩:=wV I 8 a O x ha u
   obtain ⟨k,items,rfl,⟨o,ho,hc,n,hd⟩,hv,hz⟩:=xL I D h3
   obtain ⟨J,g1,g2,g3⟩:=wP (wV I 7) hv (vZ h5)
   refine SeqAt.in_list_reads (.list ho hc hd g1) r1 g2 r2 ?_ B
   have:=iB (nQ l) x.depth
   exact n_b6 U T
 | Is =>
  obtain ⟨rfl,h⟩:=qQg hr
  cases D
  obtain ⟨u,h2⟩:=qGj ha h
  exact wpAny_is_plain u (by rw [h2]; exact B)
 | IsNot =>
  obtain ⟨rfl,h⟩:=qQg (qPw hr)
  cases D
  obtain ⟨u,h2⟩:=qGj ha h
  exact wpAny_isNot_plain u (by rw [h2,not_not]; exact B)
 | _=>cases hr
theorem qRc {lv:Nat} (F:Fm P lv fr A env) (I:Inv P fr W Z.toHp s) (L:Loc P env W Z s.heap) {op:CmpOp} {a b:V} {B D:g9} (ha:VR W Z.nxt a B) (J:VR W Z.nxt b D) (u:(vG Z.toHp op a b).st Z≠.bad) :
  wpAny P.M A (compareOp op B D) (Post P fr env W Z s ((vG Z.toHp op a b).st Z)) NoE s:=by
 obtain ⟨r,hr⟩:=qVb u
 have e:vG Z.toHp op a b=.ok (.bool r):=by unfold vG; rw [hr]; rfl
 rw [e]
 exact zIy F I L ha J hr (qM rfl (Step.refl I L) (.bool _))
theorem zHf (I:Inv P fr W Z.toHp s) (L:Loc P env W Z s.heap) {a:V} {B:g9} (ha:VR W Z.nxt a B) (u:(zHg a).st Z≠.bad) :
  wpAny P.M A (unaryOp .USub B) (Post P fr env W Z s ((zHg a).st Z)) NoE s:=by
 obtain ⟨i,e⟩:=qP (o:=qU a) (f:=λ a=>Ov.ok (.int (-a))) (b:=.bad) λ q=>u (g8 (Ov.st · Z) q)
 obtain rfl:=qK e
 obtain ⟨_,rfl⟩:=ha.inv_int
 exact PySem.P.neg_int (qM rfl (Step.toks I L _) (.int ..))
theorem xQ {u:Expr} (h:qCf u=false) (o i:g9):subscripted u false o i=operate [o,i] (getItem o i):=by
 cases u <;> first | rfl | exact zT1 h
theorem qMu {k:Int} {n j:Nat} (h:seqIndex? k n=some j):(0<=k/\k < n/\k.toNat=j)\/(k < 0/\0<=k+n/\(k+n).toNat=j):=by
 have at_:∀ i:Int,(if (decide (0<=i) && decide (i < n))=true then some i.toNat else none)=some j->0<=i/\i < n/\i.toNat=j:=λ i h=>by
  by_cases q:(decide (0<=i) && decide (i < n))=true
  ·rw [c7 q] at h
   have B:=Bool.and_eq_true_iff.mp q
   exact ⟨m5 B.1,m5 B.2,j7 h⟩
  ·rw [d0 q] at h; cases h
 by_cases u:k < 0
 ·obtain ⟨a,_,b⟩:=at_ (k+n) (by have e:(if k < 0 then k+n else k)=k+n:=c7 u; rw [← e]; exact h)
  exact .inr ⟨u,a,b⟩
 ·exact .inl (at_ k (by have e:(if k < 0 then k+n else k)=k:=d0 u; rw [← e]; exact h))
theorem qAo {E:Pv} {l:Addr} {items:Array g9} {k:Int} {t:Tok} {j:Nat} {x:g9} {Q:Pv} (J:s.heap.IsList l items)
  (u:vR k=true) (hj:seqIndex? k items.size=some j) (hx:items[j]? = some x) (h:Q x s):wpAny P.M A (getItem (.ref l) (.int k t)) Q E s:=by
 unfold vR at u
 simp only [d8,j4] at u
 rcases qMu hj with ⟨B,D,e⟩ | ⟨B,D,e⟩
 ·exact wpAny_getItem_list J B u.2 (by rw [e]; exact hx) h
 ·exact wpAny_getItem_list_neg J B (by exact Int.add_nonneg_iff_neg_le.mp D) u.1 (by rw [e]; exact hx) h
theorem qRu {x:Str} (h:t5 x=true) {j c:Nat} (hc:x.cps[j]? = some c):t5 ⟨#[c]⟩=true:=by
 have:=Array.all_eq_true_iff_forall_mem.mp (show x.cps.all (· < 0x110000)=true from h) c (Array.mem_of_getElem? hc)
 show (#[c]:Array Nat).all _=true
 simpa using this
theorem qMd (I:Inv P fr W Z.toHp s) {u:List V} {c:g9} (h:VR W Z.nxt (.tup u) c):∃ t o items e,c=.ref t/\s.heap.get? t=some o/\o.cls=.type "tuple" /\ o.data=.seq items e/\VRs W Z.nxt u items.toList:=by
 obtain ⟨_,_,_,_,rfl,a,b,d,z,r⟩:=h.dat
 exact ⟨_,_,_,_,rfl,(I.frz _ _ a).1,b,d,r⟩
theorem zHv {a i:V} (I:Inv P fr W Z.toHp s) (L:Loc P env W Z s.heap) {ca ci:g9} (ha:VR W Z.nxt a ca) (hi:VR W Z.nxt i ci) (X:(wF Z.toHp a i).st Z≠.bad) {U sl:Expr} (S:qCf sl=false) :
  wpAny P.M A (subscriptTail U sl ca ci) (Post P fr env W Z s ((wF Z.toHp a i).st Z)) NoE s:=by
 have B:wF Z.toHp a i≠.bad:=λ q=>X (by rw [q]; rfl)
 clear X
 obtain ⟨k,ei⟩:=qP B
 obtain rfl:=qK ei
 obtain ⟨u,rfl⟩:=hi.inv_int
 by_cases J:vR k=true
 ·cases es:qQ a with
  | some x =>
   obtain rfl:=qI es
   have Y:wF Z.toHp (.str x) (.int k)=((seqIndex? k x.length).bind (x.cps[·]?)).elim .bad λ c=>.ok (.str ⟨#[c]⟩):=c7 J
   rw [Y] at B ⊢
   obtain ⟨c,hc⟩:=qP B
   rw [hc]
   obtain ⟨t,rfl,hz,a1⟩:=ha.inv_str
   refine pN (aT s x t) PySem.F.slot_str_getitem.lookup ?_ (xQ S _ _)
   have hr:(decide (k < -(2 ^ 63:Int)) || decide (k ≥ 2 ^ 63))=false:=by
    unfold vR at J
    rw [d8,j4,j4] at J
    rw [Bool.or_eq_false_iff,eV,eV]
    exact ⟨Int.not_lt.mpr J.1,Int.not_le.mpr J.2⟩
   obtain ⟨j,T,h2⟩:=Option.bind_eq_some_iff.mp hc
   exact PySem.P.getItem_str hr hc (qM rfl (Step.toks I L _) (.str _ _ (by show 1<=g0; decide) (qRu a1 h2)))
  | none =>
   have Y:wF Z.toHp a (.int k)=(qRf Z.toHp a).elim .bad λ xs=>((seqIndex? k xs.length).bind (xs[·]?)).elim .bad .ok:=by
    refine (c7 J).trans ?_
    rw [es]
   rw [Y] at B ⊢
   obtain ⟨xs,hx⟩:=qP B
   rw [hx] at B ⊢
   obtain ⟨v,hv⟩:=qP (show ((seqIndex? k xs.length).bind (xs[·]?)).elim Ov.bad Ov.ok≠.bad from B)
   have a0:(some xs).elim Ov.bad (λ xs=>((seqIndex? k xs.length).bind (xs[·]?)).elim .bad .ok)=.ok v:=by
    show ((seqIndex? k xs.length).bind (xs[·]?)).elim Ov.bad Ov.ok=_
    rw [hv]; rfl
   rw [a0]
   by_cases ht:∃ ys,a=.tup ys
   ·obtain ⟨ys,rfl⟩:=ht
    cases hx
    obtain ⟨t,o,items,e,rfl,T,h2,h3,h4⟩:=qMd I ha
    have D:=h4.length
    rw [h9] at D
    obtain ⟨j,h5,h6⟩:=Option.bind_eq_some_iff.mp hv
    obtain ⟨c,g1,g2⟩:=h4.get h6
    have O:=J
    unfold vR at O
    rw [d8,j4,j4] at O
    exact pN ⟨o,T,h2⟩ PySem.F.slot_tuple_getitem.lookup (PyProof.Rows.getItem_tuple ⟨o,T,h2,e,h3⟩ O.1 O.2 (by rw [D]; exact h5) (by rw [← dI]; exact g1) (qM rfl (Step.refl I L) g2)) (xQ S _ _)
   have hx:qV Z.toHp a=some xs:=by
    rw [← hx]
    cases a <;> first | rfl | exact f8 ⟨_,rfl⟩ ht
   obtain ⟨l,items,rfl,hl,hr,hz⟩:=xL I ha hx
   have D:=hr.length
   rw [h9] at D
   refine pN hl.typeIs slot_list_getitem.lookup ?_ (xQ S _ _)
   obtain ⟨j,T,h2⟩:=Option.bind_eq_some_iff.mp hv
   obtain ⟨c,g1,g2⟩:=hr.get h2
   exact qAo hl J (by rw [D]; exact T) (by rw [← dI]; exact g1) (qM rfl (Step.refl I L) g2)
 ·exact f8 (d0 J) B
theorem uP {H:Hp} {a:V} {i:Int} {xs:List V} {j:Nat} {v:V} (hs:qQ a=none) (h:qV H a=some xs) (B:vR i=true) (D:seqIndex? i xs.length=some j) (hx:xs[j]? = some v):wF H a (.int i)=.ok v:=by
 refine (c7 B).trans ?_
 rw [hs]
 show (qRf H a).elim Ov.bad _=_
 have u:qRf H a=qV H a:=by
  cases a <;> first | rfl | (cases h; done)
 rw [u,h]
 show ((seqIndex? i xs.length).bind (xs[·]?)).elim Ov.bad Ov.ok=_
 rw [D]
 show (xs[j]?).elim Ov.bad Ov.ok=_
 rw [hx]; rfl
theorem qIk {H:Hp} {x:Str} {i:Int} {j c:Nat} (u:vR i=true) (B:seqIndex? i x.length=some j) (hx:x.cps[j]? = some c):wF H (.str x) (.int i)=.ok (.str ⟨#[c]⟩):=by
 refine (c7 u).trans ?_
 show ((seqIndex? i x.length).bind (x.cps[·]?)).elim Ov.bad _=_
 rw [B]
 show (x.cps[j]?).elim Ov.bad _=_
 rw [hx]; rfl
theorem qGw {W:Wd} {n:Nat} {v:V} {c:g9} {p:Option Int} (hv:VR W n v c) (e:qJf v=some p):∃ q:Option (Int×Tok),c=partValue q/\p=q.map (·.1)/\IsPart c p:=by
 have hv:=hv.dat
 cases v with
 | none=>obtain rfl:=hv; cases e; exact ⟨none,rfl,rfl,.none⟩
 | int i=>obtain ⟨t,rfl⟩:=hv; cases e; exact ⟨some (i,t),rfl,rfl,.int i t⟩
 | _=>exact zN1 e
theorem VRs.cut {W:Wd} {n:Nat} {xs:List V} {cs:Lv} (h:VRs W n xs cs) (l u:Option Int):VRs W n (Mine.Lake.cut xs l u) (Mine.Lake.cut cs l u):=by
 unfold Mine.Lake.cut
 rw [h.length]
 exact (h.drop _).take _
theorem zIz (n:Nat) (i:Int):clipAt n i<=n:=by
 have:=clipAt_cast n i
 exact n_b7 this
set_option tactic.hygienic true in
theorem qSm (x:Str) (l u:Option Int):Txt.slice x l u=⟨(cut x.cps.toList l u).toArray⟩:=by
 have D:dZ l u 1 x.length=sliceRange ((l.elim 0 (clipAt x.length):Nat):Int) ((u.elim x.length (clipAt x.length):Nat):Int) 1:=by
  unfold dZ
  cases l <;> cases u <;> simp [clipAt_cast]
 have e:(dZ l u 1 x.length).filterMap (x.cps[·]?)=cut x.cps.toList l u:=by
  rw [D,sliceRange_one,pick_run]
  unfold cut
  rw [h9]; rfl
 unfold Txt.slice
 split
 ·rename_i h
  have J:(dZ l u 1 x.length).length=x.length:=beq_iff_eq.mp h
  have h3:cut x.cps.toList l u=x.cps.toList:=by
   have hs:(cut x.cps.toList l u).Sublist x.cps.toList:=(lK _ _).trans (mI _ _)
   refine hs.eq_of_length ?_
   have B:(u.elim x.length (clipAt x.length)) - (l.elim 0 (clipAt x.length))=x.length:=by
    rw [D,sliceRange_one] at J; simpa using J
   have hu:u.elim x.length (clipAt x.length)<=x.length:=by
    cases u with
    | none=>exact d7 _
    | some i=>exact zIz _ _
   have hx:x.cps.toList.length=x.length:=h9
   unfold cut
   rw [hx,dS,u0,hx,B]
   exact dT (d5 (v1 B.symm) (Nat.sub_le_sub_right hu _))
  rw [h3]
 ·rw [e]
theorem qRv {x:Str} (h:t5 x=true) (l u:Option Int):t5 ⟨(cut x.cps.toList l u).toArray⟩=true:=by
 have h':∀ c∈x.cps.toList,c < 0x110000:=by
  intro c hc
  have:=Array.all_eq_true_iff_forall_mem.mp (show x.cps.all (· < 0x110000)=true from h) c (by simpa using hc)
  simpa using this
 show ((cut x.cps.toList l u).toArray).all (· < 0x110000)=true
 rw [Array.all_eq_true_iff_forall_mem]
 intro c hc
 have B:c∈cut x.cps.toList l u:=by simpa using hc
 have hs:(cut x.cps.toList l u).Sublist x.cps.toList:=(lK _ _).trans (mI _ _)
 simpa using h' c (hs.subset B)
theorem qFj {α:Type} (xs:List α) (l u:Option Int):(cut xs l u).length<=xs.length :=
 ((lK _ _).trans (mI _ _)).length_le
set_option tactic.hygienic true in
theorem zDw (I:Inv P fr W Z.toHp s) (L:Loc P env W Z s.heap) {a l u:V} {ca cl Y:g9} (ha:VR W Z.nxt a ca) (hl:VR W Z.nxt l cl) (hu:VR W Z.nxt u Y) (T:(wX Z.toHp a l u).st Z≠.bad) {value lo hi p} :
  wpAny P.M A (subscriptTail value (.Slice lo hi Option.none p) ca (.ref s.heap.objs.size)) (Post P fr env W Z s ((wX Z.toHp a l u).st Z)) NoE { s with heap:=s.heap.push { cls:=.type "slice", data:=.fields #[cl,Y,.none] } }:=by
 have B:Step P fr env W Z s W Z { s with heap:=s.heap.push { cls:=.type "slice", data:=.fields #[cl,Y,.none] } }:=Step.push I L _ rfl rfl rfl
 have O:wX Z.toHp a l u≠.bad:=λ q=>T (by rw [q]; rfl)
 clear T
 obtain ⟨l',e1⟩:=qP O
 obtain ⟨D,rfl,rfl,i1⟩:=qGw hl e1
 obtain ⟨u',e2⟩:=qP (show (qJf u).elim Ov.bad _≠.bad from λ q=>O (by unfold wX; rw [e1]; exact q))
 obtain ⟨J,rfl,rfl,i2⟩:=qGw hu e2
 cases hs:qQ a with
 | some x =>
  have he:wX Z.toHp a l u=.ok (.str ⟨(cut x.cps.toList (D.map (·.1)) (J.map (·.1))).toArray⟩):=by unfold wX; rw [e1,e2,hs]; rfl
  rw [he]
  obtain rfl:=qI hs
  obtain ⟨t,rfl,S,U⟩:=ha.inv_str
  refine pN (aT _ x t) PySem.F.slot_str_getitem.lookup ?_ (ops:=[.ref s.heap.objs.size,.str x t]) rfl
  refine wpAny_getItem_str_slice (l:=D) (u:=J) (st:=none) ⟨_,r4 _ rfl,rfl,rfl⟩ rfl ?_
  have X:(⟨(cut x.cps.toList (D.map (·.1)) (J.map (·.1))).toArray⟩:Str).length<=g0:=by
   show (pM _).size<=_
   rw [n7]
   have h1:=qFj x.cps.toList (D.map (·.1)) (J.map (·.1))
   have h2:x.cps.toList.length=x.length:=h9
   exact d5 h1 (h2 ▸ S)
  have e:=qSm x (D.map (·.1)) (J.map (·.1))
  unfold Txt.slice at e
  unfold sliceMade slicePicked
  simp only [Option.map_none,Option.getD_none]
  split
  ·rename_i h
   rw [c7 h] at e
   exact Post.after B (qM rfl (Step.refl B.inv B.loc) (by rw [← e]; exact .str _ _ S U))
  ·rename_i h
   rw [d0 h] at e
   rw [e]
   exact ⟨X,Post.after B (qM rfl (Step.toks B.inv B.loc _) (.str _ _ X (qRv U _ _)))⟩
 | none =>
  have he:wX Z.toHp a l u=(qV Z.toHp a).elim .bad λ xs=>.ok (.list (cut xs (D.map (·.1)) (J.map (·.1)))):=by unfold wX; rw [e1,e2,hs]; rfl
  rw [he] at O ⊢
  obtain ⟨xs,hx⟩:=qP O
  rw [hx]
  obtain ⟨k,items,rfl,hL,hr,S⟩:=xL B.inv ha hx
  refine pN hL.typeIs slot_list_getitem.lookup ?_ (ops:=[.ref s.heap.objs.size,.ref k]) rfl
  refine wpAny_getItem_list_slice hL (Heap.IsSliceOf.new ..) i1 i2 .none (by simp) ?_ S
  have e:(slicePick items (D.map (·.1)) (J.map (·.1)) none).toList=Mine.Lake.cut items.toList (D.map (·.1)) (J.map (·.1)):=by
   rw [slicePick_plain]; unfold Mine.Lake.cut; rw [h9]
  refine Post.after B ?_
  exact jK (items:=slicePick items (D.map (·.1)) (J.map (·.1)) none) B.inv B.loc (by rw [e]; exact hr.cut _ _) (d5 (slicePick_size_le items (D.map (·.1)) (J.map (·.1)) none) S) rfl rfl rfl
end
structure ScOk (sc:Scope) (env:Env):Prop where
 loc:∀ x,sc.names.lookup x=some .local->env.kindOf x=some .local
 glob:∀ x,sc.names.lookup x=some .globalImplicit->env.kindOf x=some .globalImplicit
 cel:∀ x,(sc.names.lookup x=some .cell\/sc.names.lookup x=some .free)->env.kindOf x=some .cell\/env.kindOf x=some .free
 cell:∀ x,sc.names.lookup x=some .cell->env.kindOf x=some .cell
 has:∀ x,(env.kindOf x=some .cell\/env.kindOf x=some .free)->∃ a,env.cells.lookup x=some a
def kN (v:V) (Z:St):Rs Bool:=match xP Z.toHp v with | some b=>.ok b Z | Option.none=>.bad
def tr (f:St->Rs V) (Z:St):Rs Bool:=(f Z).bind kN
def wH (f:St->Rs V) (Z:St):Rs (List V):=(f Z).bind λ v Z'=>jH v Z' λ xs Z'=>.ok xs Z'
def jT (M:Model) (A:n6) (u:g9) (s:d6):Prop:=∀ (E:Pv) (Q:Keeper->d6->Prop),(∀ k,Q k s)->wpAny M A (keeperOf u) Q E s
def qLw (P:Par):Prop:=∃ mg D u,P.B.Ns r8 mg/\mg "__builtins__" = some (.ref D)/\D≠aY/\P.B.get? D=some u/\u.cls=.type "module" /\ u.dict=some aY/\u.data=.plain
structure CxOk (P:Par) (cx:Cx):Prop where
 lam:qLw P
 cal:cx.calm=false->P.ex=none
 gl:∀ x v,cx.gl x=some v->∃ c mg mb,P.B.Ns r8 mg/\P.B.Ns aY mb/\(mg x=some c\/(mg x=none/\mb x=some c))/\∀ W n,VR W n v c
 app:∀ fr A env,Fm P cx.lvl fr A env->∀ W Z s,Inv P fr W Z.toHp s->Loc P env W Z s.heap->∀ f args cf cargs,VR W Z.nxt f cf->VRs W Z.nxt args cargs->(cx.app f args Z.toHp).lift Z≠.bad ->
  jT P.M A cf s/\wpAny P.M A (call cf cargs []) (Post P fr env W Z s ((cx.app f args Z.toHp).lift Z)) NoE s
 get:∀ fr A env,Fm P cx.lvl fr A env->∀ W Z s,Inv P fr W Z.toHp s->Loc P env W Z s.heap->∀ o m co vf first,VR W Z.nxt o co->cx.get o m Z.toHp=some (vf,first)->∀ (pl:Sem Bool) (E:Pv) (Q:g9×Lv->d6->Prop),
  (∀ r s' W',Step P fr env W Z s W' Z s'->VR W' Z.nxt vf r.1->VRs W' Z.nxt first r.2->Q r s')->wpAny P.M A (getMethod co m pl) Q E s
 fld:∀ fr A env,Fm P cx.lvl fr A env->∀ W Z s,Inv P fr W Z.toHp s->Loc P env W Z s.heap->∀ o f co,VR W Z.nxt o co->(cx.fld o f Z.toHp).st Z≠.bad ->
  wpAny P.M A (getAttr co f true) (Post P fr env W Z s ((cx.fld o f Z.toHp).st Z)) NoE s
section
variable {P:Par} {fr:Ln} {A:n6} {env:Env} {W:Wd} {Z:St} {s:d6} {cx:Cx}
theorem qIp {M:Model} {E:Pv} {f:g9} {u:List (Bool×Sem g9)} {Q:Args->d6->Prop} (hs:u.any (·.1)=false)
  (h:wpAny M A (spliced u) (λ vs s'=>Q ⟨vs,[]⟩ s') E s):wpAny M A (evalArgs f true u []) Q E s:=by
 cases u with
 | nil =>
  unfold evalArgs
  show wpAny M A (spliced [] >>= _) Q E s
  refine d3 (j0 h (λ vs s' h'=>?_) λ q q x=>x)
  refine d3 (d9 ?_)
  refine l8 ?_
  exact d3 (d9 (d3 (d9 (d9 h'))))
 | cons x r =>
  obtain ⟨b,t⟩:=x
  have B:b=false:=by simp at hs; exact hs.1
  subst B
  exact Calls.evalArgs_plain h
theorem kS {M:Model} {E:Pv} {pos:Pos} {f:g9} {first:Lv} {u:List (Bool×Sem g9)} {Q:Pv} (hs:u.any (·.1)=false)
  (h:wpAny M A (spliced u) (λ vs a8=>jT M A f a8/\wpAny M A (call f (first++vs) []) Q E a8) E s):wpAny M A (callWith pos f first u []) Q E s:=by
 unfold callWith
 refine d3 (l8 (qIp hs (j0 h (λ vs a8 B=>d3 (eE ?_)) λ q q x=>x)))
 rw [hs,show (false || ([]:List (Option Str×Sem g9)).any (λ x=>x.1.isNone))=false from rfl]
 have tail:∀ {t:Sem g9},wpAny M A t Q E a8->wpAny M A (t >>= λ r=>holding [r] point >>= λ q=>pure r) Q E a8 :=
  λ D=>d3 (j0 D (λ r J hr=>d3 (l8 (wpAny_point (d9 hr)))) λ q q x=>x)
 refine d3 (B.1 _ _ λ k=>?_)
 cases k with
 | frame =>
  dsimp only
  split
  ·exact tail B.2
  ·exact tail (by unfold callMarked; exact Calls.wpAny_keep B.2)
 | boundFrame =>
  dsimp only
  split
  ·exact tail B.2
  ·exact tail (by unfold callMarked; exact Calls.wpAny_keep B.2)
 | machine=>exact tail B.2
 | caller=>exact tail (wpAny_operating B.2)
def zQm (P:Par) (cx:Cx) (x:X) (fr:Ln) (A:n6) (env:Env):Ph->Prop
 | .e ex=>OkE P fr A env (eval ex env) (ev cx x)/\OkB P fr A env (isTrue ex env (eval ex env)) (tr (ev cx x))
 | .none=>OkE P fr A env (pure .none) (ev cx x)
 | .es l=>∀ pos,(backTo pos (starEach l env)).any (·.1)=false/\(backTo pos (starEach l env)).length=l.length/\OkL P fr A env (spliced (backTo pos (starEach l env))) (wH (ev cx x))
 | .an l=>l≠[]/\∀ pos u,OkE P fr A env (eval (.BoolOp .And l pos) env) (ev cx x)/\OkB P fr A env (isTrue (.BoolOp .And l pos) env u) (tr (ev cx x))
 | .or l=>l≠[]/\∀ pos u,OkE P fr A env (eval (.BoolOp .Or l pos) env) (ev cx x)/\OkB P fr A env (isTrue (.BoolOp .Or l pos) env u) (tr (ev cx x))
 | .cond l=>l=[]/\∀ Z,ev cx x Z=.ok (.bool true) Z
def Snd (P:Par) (cx:Cx) (x:X) (sc:Scope) (u:Ph):Prop:=∀ fr A env,Fm P cx.lvl fr A env->ScOk sc env->zQm P cx x fr A env u
set_option tactic.hygienic true in
theorem zLs {t:Sem g9} {f:St->Rs V} {B:Sem Bool} (h:OkE P fr A env t f) (J:∀ (E:Pv) (Q:Bool->d6->Prop) s,wpAny P.M A t (λ v a8=>wpAny P.M A (truthy v) Q E a8) E s->wpAny P.M A B Q E s) :
  OkB P fr A env B (tr f):=λ W Z s I L u=>by
 refine J _ _ s (qWc h I L u (λ e s' h=>h) λ v c W' Z' s' e st hv=>?_)
 have O:tr f Z=kN v Z':=Rs.bind_ok e
 rw [O] at u ⊢
 unfold kN at u ⊢
 revert u
 split <;> intro u
 ·rename_i b D
  exact truthy_ok st.inv hv D λ t=>⟨Z',W',rfl,st.trans (Step.toks st.inv st.loc t)⟩
 ·exact f8 rfl u
theorem qO {ex:Expr} {f:St->Rs V} (h:OkE P fr A env (eval ex env) f) (D:∀ u,isTrue ex env u=(do let v ← u; standAt ex.pos; holding [v] (truthy v))) :
  OkB P fr A env (isTrue ex env (eval ex env)) (tr f):=zLs h λ q q q B=>isTrue_plain B (D _)
theorem wM {x:X} {v:V} {ex:Expr} (B:∀ Z,ev cx x Z=.ok v Z) (u:∀ W Z s,Inv P fr W Z.toHp s->Loc P env W Z s.heap->∀ (Q:Pv) (E:Pv),(∀ c t,VR W Z.nxt v c->Q c { s with toks:=t })->wpAny P.M A (eval ex env) Q E s) :
  OkE P fr A env (eval ex env) (ev cx x):=λ W Z s I L q=>u W Z s I L _ _ λ c t hv=>by rw [B]; exact qM rfl (Step.toks I L t) hv
theorem jB {x:Str} (h:zR x=true):(x == ("__debug__" : Str))=false/\(x == ("__classdict__" : Str))=false:=by
 simp only [zR,d8,bne,dO] at h
 exact h
theorem zDg {sc:Scope} {x:Str} {p:Pos} (h:(zR x && sc.names.lookup x == some .local)=true):Snd P cx (.var x) sc (.e (.Name x p)):=by
 intro fr A env F S
 simp only [d8,j8] at h
 obtain ⟨hd,T⟩:=jB h.1
 have hk:=S.loc x h.2
 have B:OkE P fr A env (eval (.Name x p) env) (ev cx (.var x)):=λ W Z s I L u=>by
  have D:ev cx (.var x) Z=(match Z.loc.lookup x with | some v=>.ok v Z | Option.none=>.bad):=rfl
  rw [D] at u ⊢
  cases hv:Z.loc.lookup x with
  | none=>rw [hv] at u; exact f8 rfl u
  | some v =>
   obtain ⟨m,hn,J⟩:=L.loc
   obtain ⟨_,c,O,hr⟩:=J x v hv
   exact pG (fV L.kind hk hn O (qM rfl (Step.refl I L) hr)) hd
 exact ⟨B,qO B λ q=>rfl⟩
theorem zKw {sc:Scope} {x:Str} {p:Pos} (h:(zR x && (sc.names.lookup x == some .cell || sc.names.lookup x == some .free))=true):Snd P cx (.cv x) sc (.e (.Name x p)):=by
 intro fr A env F S
 simp only [d8,lS,j8] at h
 obtain ⟨hd,T⟩:=jB h.1
 have hk:=S.cel x h.2
 have J:OkE P fr A env (eval (.Name x p) env) (ev cx (.cv x)):=λ W Z s I L u=>by
  have U:ev cx (.cv x) Z=(match Z.cel.lookup x with
   | some k=>(match Z.obj k with | some (.cell (some v))=>.ok v Z | _=>.bad)
   | Option.none=>.bad):=rfl
  rw [U] at u ⊢
  cases D:Z.cel.lookup x with
  | none=>rw [D] at u; exact f8 rfl u
  | some k =>
   rw [D] at u
   dsimp only at u ⊢
   obtain ⟨v,hv⟩:∃ v,Z.obj k=some (.cell (some v)):=by
    revert u
    cases Z.obj k with
    | none=>exact λ h=>f8 rfl h
    | some o=>cases o with
     | cell o=>cases o with
      | none=>exact λ h=>f8 rfl h
      | some v=>exact λ z=>⟨v,rfl⟩
     | _=>exact λ h=>f8 rfl h
   ·rw [hv]
    obtain ⟨p,q⟩:=L.cel x k D
    obtain ⟨_,c,hc,hr⟩:=I.obj k _ hv
    cases hr with
    | cell O hr =>
     have B:s.heap.IsCell (W.ρ k) (some _):=⟨_,hc,O⟩
     refine pG ?_ hd
     rcases hk with hk | hk
     ·exact wpAny_loadName_cell L.kind hk (q (.inl hk)) B (qM rfl (Step.refl I L) hr)
     ·refine wpAny_loadName_free L.kind hk (q (.inr hk)) B (qM rfl (Step.refl I L) hr) T
 exact ⟨J,qO J λ z=>rfl⟩
theorem uM (I:Inv P fr W Z.toHp s) {a:Addr} {m:Str->Option g9} (h:P.B.Ns a m):s.heap.Ns a m:=h.keeps I.keep
set_option tactic.hygienic true in
theorem qWv (C:CxOk P cx) {sc:Scope} {x:Str} {p:Pos} (h:(zR x && sc.names.lookup x == some .globalImplicit)=true):Snd P cx (.glob x) sc (.e (.Name x p)):=by
 intro fr A env F S
 simp only [d8,j8] at h
 refine bC λ D=>?_
 obtain ⟨hd,U⟩:=jB h.1
 refine D ?_
 have hk:=S.glob x h.2
 have B:OkE P fr A env (eval (.Name x p) env) (ev cx (.glob x)):=λ W Z s I L u=>by
  have O:ev cx (.glob x) Z=(match cx.gl x with | some v=>.ok v Z | Option.none=>.bad):=rfl
  rw [O] at u ⊢
  revert u
  split <;> intro u
  ·rename_i v hv
   refine bC λ D=>?_
   obtain ⟨c,mg,mb,J,T,hc,hr⟩:=C.gl x v hv
   refine D ?_
   refine Calls.Name_function_global (env:=env) L.kind hk ?_ hd
   rcases hc with hc | ⟨hc,hb⟩
   ·exact Calls.loadGlobal_global (by rw [L.glob]; exact uM I J) hc (qM rfl (Step.refl I L) (hr _ _))
   ·exact Calls.loadGlobal_builtin (by rw [L.glob]; exact uM I J) hc (by rw [L.bns]; exact uM I T) hb (qM rfl (Step.refl I L) (hr _ _))
  ·exact f8 rfl u
 exact ⟨B,qO B λ q=>rfl⟩
theorem qWr {sc:Scope} {k:Nat} {p:Pos}:Snd P cx .none sc (.e (.Constant .none k p)):=λ fr A env F S =>
 have u:OkE P fr A env (eval (.Constant .none k p) env) (ev cx .none):=wM (v:=.none) (λ q=>rfl) λ W Z s I L Q E B=>λ q q q=>B .none s.toks .none
 ⟨u,qO u λ q=>rfl⟩
theorem qRz {sc:Scope}:Snd P cx .none sc .none:=λ fr A env F S W Z s I L q=>d9 (qM rfl (Step.refl I L) .none)
theorem qWz {sc:Scope} {b:Bool} {k:Nat} {p:Pos}:Snd P cx (.bool b) sc (.e (.Constant (.bool b) k p)):=λ fr A env F S =>
 have u:OkE P fr A env (eval (.Constant (.bool b) k p) env) (ev cx (.bool b)):=wM (v:=.bool b) (λ q=>rfl) λ W Z s I L Q E B=>λ q q q=>B (.bool b) s.toks (.bool b)
 ⟨u,qO u λ q=>rfl⟩
theorem zKu {sc:Scope}:Snd P cx (.bool true) sc (.cond []):=λ fr A env F S=>⟨rfl,λ Z=>rfl⟩
theorem zDq {sc:Scope} {i:Int} {k:Nat} {p:Pos}:Snd P cx (.int i) sc (.e (.Constant (.int i) k p)):=λ fr A env F S =>
 have u:OkE P fr A env (eval (.Constant (.int i) k p) env) (ev cx (.int i)):=wM (v:=.int i) (λ q=>rfl) λ W Z s I L Q E B=>wpAny_Constant_int (B _ _ (.int _ _))
 ⟨u,qO u λ q=>rfl⟩
theorem zDi {sc:Scope} {x:Str} {k:Nat} {p:Pos} (h:(decide (x.length<=g0) && t5 x)=true):Snd P cx (.str x) sc (.e (.Constant (.str x) k p)):=λ fr A env F S=>by
 simp only [d8,j4] at h
 have u:OkE P fr A env (eval (.Constant (.str x) k p) env) (ev cx (.str x)):=wM (v:=.str x) (λ q=>rfl) λ W Z s I L Q E B=>lU (B _ _ (.str _ _ h.1 h.2))
 exact ⟨u,qO u λ q=>rfl⟩
theorem qWb {ta tb:Sem g9} {T J:St->Rs V} {g:g9->g9->Sem g9} {k:V->V->St->Rs V} (ha:OkE P fr A env ta T) (hb:OkE P fr A env tb J) (I:Inv P fr W Z.toHp s) (L:Loc P env W Z s.heap)
  (D:((T Z).bind λ B a0=>(J a0).bind λ u a7=>k B u a7)≠.bad)
  (hg:∀ W Z s B u S O,Inv P fr W Z.toHp s->Loc P env W Z s.heap->VR W Z.nxt B S->VR W Z.nxt u O->k B u Z≠.bad->wpAny P.M A (g S O) (Post P fr env W Z s (k B u Z)) NoE s) :
  wpAny P.M A ta (λ a a8=>wpAny P.M A tb (λ b Y=>wpAny P.M A (g a b) (Post P fr env W Z s ((T Z).bind λ B a0=>(J a0).bind λ u a7=>k B u a7)) NoE Y)
   NoE a8) NoE s:=by
 refine j0 (ha W Z s I L (Rs.bind_ne D)) (λ S a8 ⟨B,a0,aB,aF,X,a3⟩=>?_) (λ e s' h=>h.elim)
 have r1:((T Z).bind λ B a0=>(J a0).bind λ u a7=>k B u a7)=(J a0).bind λ u a7=>k B u a7:=Rs.bind_ok aF
 rw [r1] at D ⊢
 refine j0 (hb aB a0 a8 X.inv X.loc (Rs.bind_ne D)) (λ O Y ⟨u,a7,aE,aL,U,a1⟩=>?_) (λ e s' h=>h.elim)
 have r2:((J a0).bind λ u a7=>k B u a7)=k B u a7:=Rs.bind_ok aL
 rw [r2] at D ⊢
 have st:=X.trans U
 exact j0 (hg aE a7 Y B u S O st.inv st.loc (a3.mono U.nx.wle U.nx.le) a1 D) (λ c s' h=>h.after st) λ e s' h=>h.after st
theorem zDt {sc:Scope} {a b:X} {op:Operator} {l r:Expr} {p:Pos} (O:Snd P cx a sc (.e l)) (D:Snd P cx b sc (.e r)):Snd P cx (.bin op a b) sc (.e (.BinOp l op r p)):=λ fr A env F S =>
 have B:OkE P fr A env (eval (.BinOp l op r p) env) (ev cx (.bin op a b)):=λ W Z s I L u =>
  wpAny_BinOp (qWb (O fr A env F S).1 (D fr A env F S).1 I L u λ W Z s V T Y U I L ha J u=>zJb I L ha J u)
 ⟨B,qO B λ q=>rfl⟩
theorem zDn {sc:Scope} {a:X} {x:Expr} {p:Pos} (D:Snd P cx a sc (.e x)):Snd P cx (.neg a) sc (.e (.UnaryOp .USub x p)):=λ fr A env F S=>by
 have B:OkE P fr A env (eval (.UnaryOp .USub x p) env) (ev cx (.neg a)):=λ W Z s I L u=>by
  refine wpAny_UnaryOp (qWc (D fr A env F S).1 I L u (λ e s' h=>h) λ v c W' Z' s' e st hv=>?_)
  have r:ev cx (.neg a) Z=(zHg v).st Z':=Rs.bind_ok e
  rw [r] at u ⊢
  exact j0 (zHf st.inv st.loc hv u) (λ c s' h=>h.after st) λ e s' h=>h.after st
 exact ⟨B,qO B λ q=>rfl⟩
theorem zKn {α β:Type} {ta tb:Sem g9} {X S:St->Rs V} {g:g9->g9->Sem α} {k:V->V->St->Rs β} {Q:α->d6->Prop} {E:Pv} (ha:OkE P fr A env ta X) (hb:OkE P fr A env tb S) (I:Inv P fr W Z.toHp s) (L:Loc P env W Z s.heap)
  (J:((X Z).bind λ B a0=>(S a0).bind λ u a7=>k B u a7)≠.bad)
  (hE:∀ e s',NoE e s'->E e s')
  (hg:∀ O a7 D B u U T,((X Z).bind λ B a0=>(S a0).bind λ u a7=>k B u a7)=k B u a7->Step P fr env W Z s O a7 D->VR O a7.nxt B U->VR O a7.nxt u T->wpAny P.M A (g U T) Q E D) :
  wpAny P.M A ta (λ a a8=>wpAny P.M A tb (λ b D=>wpAny P.M A (g a b) Q E D) E a8) E s:=by
 refine j0 (ha W Z s I L (Rs.bind_ne J)) (λ U a8 ⟨B,a0,aB,aF,a9,a5⟩=>?_) (λ e s' h=>hE e s' h.elim)
 have r1:((X Z).bind λ B a0=>(S a0).bind λ u a7=>k B u a7)=(S a0).bind λ u a7=>k B u a7:=Rs.bind_ok aF
 rw [r1] at J hg
 refine j0 (hb aB a0 a8 a9.inv a9.loc (Rs.bind_ne J)) (λ T D ⟨u,a7,O,aL,Y,a2⟩=>?_) (λ e s' h=>hE e s' h.elim)
 exact hg O a7 D B u U T (Rs.bind_ok aL) (a9.trans Y) (a5.mono Y.nx.wle Y.nx.le) a2
theorem yD {f:St->Rs V} {v:V} {Z Z':St} (e:f Z=.ok v Z'):tr f Z=kN v Z':=Rs.bind_ok e
theorem qPl {f:St->Rs V} {Z:St} (e:tr f Z≠.bad):f Z≠.bad:=Rs.bind_ne e
theorem zG {v:V} {Z:St} {b:Bool} (h:xP Z.toHp v=some b):kN v Z=.ok b Z:=by unfold kN; rw [h]
set_option tactic.hygienic true in
theorem qJp {v:V} {Z:St} (h:kN v Z≠.bad):∃ b,xP Z.toHp v=some b:=by
 unfold kN at h
 split at h
 ·rename_i b u; exact ⟨b,u⟩
 ·exact f8 rfl h
theorem zOw {f:St->Rs V} {b:Bool} {Z Z':St} (e:tr f Z=.ok b Z'):∃ v,f Z=.ok v Z'/\xP Z'.toHp v=some b:=by
 cases u:f Z with
 | ok v a0 =>
  rw [yD u] at e
  obtain ⟨D,B⟩:=qJp (v:=v) (Z:=a0) (by rw [e]; intro q; cases q)
  rw [zG B] at e; cases e
  exact ⟨v,rfl,B⟩
 | bad=>unfold tr at e; rw [u] at e; cases e
theorem qCu {t:Sem Bool} {f:St->Rs V} {Q:Bool->d6->Prop} {E:Pv} (h:OkB P fr A env t (tr f)) (I:Inv P fr W Z.toHp s) (L:Loc P env W Z s.heap) (u:tr f Z≠.bad)
  (B:∀ b v Z' W' s',f Z=.ok v Z'->xP Z'.toHp v=some b->Step P fr env W Z s W' Z' s'->Q b s'):wpAny P.M A t Q E s:=by
 refine j0 (h W Z s I L u) (λ b s' ⟨Z',W',e,st⟩=>?_) (λ ex s' h=>h.elim)
 ·obtain ⟨v,D,h2⟩:=zOw e
  exact B b v Z' W' s' D h2 st
set_option tactic.hygienic true in
theorem zDl {sc:Scope} {a:X} {x:Expr} {p:Pos} (U:Snd P cx a sc (.e x)):Snd P cx (.not a) sc (.e (.UnaryOp .Not x p)):=by
 intro fr A env F S
 have J:=U fr A env F S
 have B:∀ Z,ev cx (.not a) Z=(ev cx a Z).bind λ va a0=>match xP a0.toHp va with | some b=>.ok (.bool !b) a0 | Option.none=>.bad:=λ z=>rfl
 have T:∀ Z,ev cx (.not a) Z≠.bad->tr (ev cx a) Z≠.bad:=λ Z h=>by
  rw [B] at h
  cases D:ev cx a Z with
  | ok v a0 =>
   rw [D] at h
   rw [yD D]
   intro q; apply h
   have hn:xP a0.toHp v=none:=by
    cases Y:xP a0.toHp v with
    | none=>rfl
    | some b=>rw [zG Y] at q; cases q
   show (match xP a0.toHp v with | some b=>Rs.ok (V.bool !b) a0 | Option.none=>.bad)=.bad
   rw [hn]
  | bad=>rw [D] at h; exact f8 rfl h
 refine ⟨λ W Z s I L u=>?_,λ W Z s I L u=>?_⟩
 ·refine wpAny_UnaryOp (qWc J.1 I L u (λ e s' h=>h) λ v c W' Z' s' e st hv=>?_)
  have r:ev cx (.not a) Z=(match xP Z'.toHp v with | some b=>.ok (.bool !b) Z' | Option.none=>.bad):=Rs.bind_ok e
  rw [r] at u ⊢
  revert u
  split <;> intro u
  ·rename_i b O
   exact not_of (truthy_ok st.inv hv O λ t=>qM rfl (st.trans (Step.toks st.inv st.loc t)) (.bool _))
  ·exact f8 rfl u
 ·refine isTrue_not (qCu J.2 I L (T Z (qPl u)) λ b v Z' W' s' e O st=>?_)
  have r:ev cx (.not a) Z=.ok (.bool !b) Z':=by rw [B,Rs.bind_ok e,O]
  exact ⟨Z',W',by rw [yD r]; rfl,st⟩
theorem qPm {g:V->St->Rs V} {r:Rs V}:(r.bind g).bind kN=r.bind λ v Z'=>(g v Z').bind kN:=by
 cases r <;> rfl
theorem zDs {sc:Scope} {a b:X} {op:CmpOp} {l r:Expr} {p:Pos} (V:Snd P cx a sc (.e l)) (ib:Snd P cx b sc (.e r)) (h3:behindInMarks op r=false):Snd P cx (.cmp op a b) sc (.e (.Compare l [op] [r] p)):=by
 intro fr A env F S
 have Ja:=V fr A env F S
 have Jb:=ib fr A env F S
 refine ⟨λ W Z s I L u=>?_,λ W Z s I L u=>?_⟩
 ·exact wpAny_Compare1 (qWb Ja.1 Jb.1 I L u λ W Z s D J ca Y I L ha O u=>qRc F I L ha O u) h3
 ·refine wpAny_isTrue_Compare1 ?_ h3
  have e2:tr (ev cx (.cmp op a b)) Z=(ev cx a Z).bind λ D a0=>(ev cx b a0).bind λ J a7=>((vG a7.toHp op D J).st a7).bind kN:=by
   show ((ev cx a Z).bind λ D a0=>(ev cx b a0).bind λ J a7=>(vG a7.toHp op D J).st a7).bind _=_
   rw [qPm]
   congr 1; funext D a0
   rw [qPm]
  rw [e2] at u ⊢
  refine zKn Ja.1 Jb.1 I L u (λ e s' h=>h) λ aE a7 aH D J ca Y e st U T=>?_
  rw [e] at u ⊢
  refine j0 (qRc F st.inv st.loc U T (Rs.bind_ne u)) (λ c s' ⟨v,Z',W',e',B,hv⟩=>?_) (λ e s' h=>h.elim)
  rw [Rs.bind_ok e'] at u ⊢
  obtain ⟨bb,O⟩:=qJp u
  exact truthy_ok B.inv hv O λ t=>⟨Z',W',zG O,(st.trans B).trans (Step.toks B.inv B.loc t)⟩
theorem zU {β:Type} {t:Sem g9} {f:St->Rs V} {G:Pv} {k:V->St->Rs β} {E:Pv}
  (u:OkE P fr A env t f) (I:Inv P fr W Z.toHp s) (L:Loc P env W Z s.heap) (B:(f Z).bind k≠.bad)
  (D:∀ e s',NoE e s'->E e s')
  (hg:∀ v c W' Z' s',f Z=.ok v Z'->Step P fr env W Z s W' Z' s'->VR W' Z'.nxt v c->G c s'):wpAny P.M A t G E s :=
 j0 (u W Z s I L (Rs.bind_ne B)) (λ c s' ⟨v,Z',W',e,st,hv⟩=>hg v c W' Z' s' e st hv) (λ e s' h=>D e s' h.elim)
theorem qMg {β:Type} {ta tb:Sem g9} {X S:St->Rs V} {G:g9->Pv} {k:V->V->St->Rs β} {E:Pv} (ha:OkE P fr A env ta X) (hb:OkE P fr A env tb S) (I:Inv P fr W Z.toHp s) (L:Loc P env W Z s.heap)
  (J:((X Z).bind λ B a0=>(S a0).bind λ u a7=>k B u a7)≠.bad)
  (hE:∀ e s',NoE e s'->E e s')
  (hg:∀ O a7 D B u U T,((X Z).bind λ B a0=>(S a0).bind λ u a7=>k B u a7)=k B u a7->Step P fr env W Z s O a7 D->VR O a7.nxt B U->VR O a7.nxt u T->G U T D) :
  wpAny P.M A ta (λ a a8=>wpAny P.M A tb (λ b D=>G a b D) E a8) E s:=by
 refine j0 (ha W Z s I L (Rs.bind_ne J)) (λ U a8 ⟨B,a0,aB,aF,a9,a5⟩=>?_) (λ e s' h=>hE e s' h.elim)
 have r1:((X Z).bind λ B a0=>(S a0).bind λ u a7=>k B u a7)=(S a0).bind λ u a7=>k B u a7:=Rs.bind_ok aF
 rw [r1] at J hg
 refine j0 (hb aB a0 a8 a9.inv a9.loc (Rs.bind_ne J)) (λ T D ⟨u,a7,O,aL,Y,a2⟩=>?_) (λ e s' h=>hE e s' h.elim)
 exact hg O a7 D B u U T (Rs.bind_ok aL) (a9.trans Y) (a5.mono Y.nx.wle Y.nx.le) a2
set_option tactic.hygienic true in
theorem uX {v:V} {Z:St} {t e:St->Rs V} (h:condR v Z t e≠.bad):(xP Z.toHp v=some true/\condR v Z t e=t Z)\/(xP Z.toHp v=some false/\condR v Z t e=e Z):=by
 unfold condR at h ⊢
 revert h
 split <;> intro h
 ·rename_i q; exact .inl ⟨q,rfl⟩
 ·rename_i q; exact .inr ⟨q,rfl⟩
 ·exact f8 rfl h
theorem zDp {sc:Scope} {c a b:X} {t x y:Expr} {p:Pos} (ic:Snd P cx c sc (.e t)) (Y:Snd P cx a sc (.e x)) (ib:Snd P cx b sc (.e y)):Snd P cx (.ite c a b) sc (.e (.IfExp t x y p)):=by
 intro fr A env F S
 have Jc:=ic fr A env F S
 have Ja:=Y fr A env F S
 have Jb:=ib fr A env F S
 have D:∀ Z,ev cx (.ite c a b) Z=(ev cx c Z).bind λ vc a0=>condR vc a0 (ev cx a) (ev cx b):=λ z=>rfl
 have J:∀ Z,ev cx (.ite c a b) Z≠.bad->tr (ev cx c) Z≠.bad:=λ Z h=>by
  rw [D] at h
  cases T:ev cx c Z with
  | ok v a0 =>
   rw [T] at h
   rw [yD T]
   rcases uX (h:condR v a0 _ _≠.bad) with ⟨q,_⟩ | ⟨q,_⟩ <;> rw [zG q] <;> intro q' <;> cases q'
  | bad=>rw [T] at h; exact f8 rfl h
 have O:∀ {bb:Bool} {v:V} {Z':St},xP Z'.toHp v=some bb->condR v Z' (ev cx a) (ev cx b)=if bb then ev cx a Z' else ev cx b Z':=λ {bb v Z'} B=>by
  unfold condR; rw [B]; cases bb <;> rfl
 refine ⟨λ W Z s I L u=>?_,λ W Z s I L u=>?_⟩
 ·refine wpAny_IfExp (qCu Jc.2 I L (J Z u) λ bb v Z' W' s' e B st=>?_)
  rw [D,Rs.bind_ok e,O B] at u ⊢
  cases bb with
  | true =>
   simp only [pO] at u ⊢
   exact j0 (Ja.1 W' Z' s' st.inv st.loc u) (λ c s' h=>h.after st) λ e s' h=>h.after st
  | false =>
   simp only [gO,oH] at u ⊢
   exact j0 (Jb.1 W' Z' s' st.inv st.loc u) (λ c s' h=>h.after st) λ e s' h=>h.after st
 ·refine isTrue_IfExp (qCu Jc.2 I L (J Z (qPl u)) λ bb v Z' W' s' e B st=>?_)
  have U:tr (ev cx (.ite c a b)) Z=(if bb then ev cx a Z' else ev cx b Z').bind kN:=by
   show (ev cx (.ite c a b) Z).bind kN=_
   rw [D,Rs.bind_ok e,O B]
  rw [U] at u ⊢
  cases bb with
  | true =>
   simp only [pO] at u ⊢
   exact j0 (Ja.2 W' Z' s' st.inv st.loc u) (λ c s' h=>h.after st) λ e s' h=>h.after st
  | false =>
   simp only [gO,oH] at u ⊢
   exact j0 (Jb.2 W' Z' s' st.inv st.loc u) (λ c s' h=>h.after st) λ e s' h=>h.after st
theorem zCe {b:X} {sc:Scope} {es:List Expr} (u:Snd P cx b sc (.ofAnd es)) (F:Fm P cx.lvl fr A env) (S:ScOk sc env) :
  es≠[]/\∀ pos B,OkE P fr A env (eval (.BoolOp .And es pos) env) (ev cx b)/\OkB P fr A env (isTrue (.BoolOp .And es pos) env B) (tr (ev cx b)):=by
 match es,u with
 | [],u=>exact u fr A env F S
 | [e],u =>
  have J:=u fr A env F S
  refine ⟨by simp,λ pos B=>⟨J.1,λ W Z s I L D=>isTrue_and (j0 (J.2 W Z s I L D) (λ b s' h=>?_) λ q q x=>x)⟩⟩
  cases b with
  | true=>exact isTrue_and_nil h
  | false=>exact h
 | e::e'::r,u=>exact u fr A env F S
theorem zEv {b:X} {sc:Scope} {es:List Expr} (u:Snd P cx b sc (.ofOr es)) (F:Fm P cx.lvl fr A env) (S:ScOk sc env) :
  es≠[]/\∀ pos B,OkE P fr A env (eval (.BoolOp .Or es pos) env) (ev cx b)/\OkB P fr A env (isTrue (.BoolOp .Or es pos) env B) (tr (ev cx b)):=by
 match es,u with
 | [],u=>exact u fr A env F S
 | [e],u =>
  have J:=u fr A env F S
  refine ⟨by simp,λ pos B=>⟨J.1,λ W Z s I L D=>isTrue_or (j0 (J.2 W Z s I L D) (λ b s' h=>?_) λ q q x=>x)⟩⟩
  cases b with
  | true=>exact h
  | false=>exact isTrue_or_nil h
 | e::e'::r,u=>exact u fr A env F S
theorem qLu {a b:X} {sc:Scope} {e:Expr} {es:List Expr} (ia:Snd P cx a sc (.e e)) (ib:Snd P cx b sc (.ofAnd es)) (F:Fm P cx.lvl fr A env) (S:ScOk sc env) (pos:Pos) (B:Sem g9) :
  OkE P fr A env (eval (.BoolOp .And (e::es) pos) env) (ev cx (.and a b))/\OkB P fr A env (isTrue (.BoolOp .And (e::es) pos) env B) (tr (ev cx (.and a b))):=by
 have Ja:=ia fr A env F S
 obtain ⟨hn,Jb⟩:=zCe ib F S
 have J:∀ Z,ev cx (.and a b) Z=(ev cx a Z).bind λ O a0=>condR O a0 (ev cx b) (λ a0=>.ok O a0):=λ z=>rfl
 have V:∀ Z,ev cx (.and a b) Z≠.bad->tr (ev cx a) Z≠.bad:=λ Z h=>by
  rw [J] at h
  cases T:ev cx a Z with
  | ok v a0 =>
   rw [T] at h
   rw [yD T]
   rcases uX (h:condR v a0 _ _≠.bad) with ⟨q,_⟩ | ⟨q,_⟩ <;> rw [zG q] <;> intro q' <;> cases q'
  | bad=>rw [T] at h; exact f8 rfl h
 match es,hn,Jb with
 | [],hn,_=>exact f8 rfl hn
 | aL::r,_,Jb =>
  refine ⟨λ W Z s I L u=>?_,λ W Z s I L u=>?_⟩
  ·refine BoolOp_and (zU (k:=λ O a0=>condR O a0 (ev cx b) (λ a0=>.ok O a0)) Ja.1 I L u (λ e s' h=>h) λ v c W' Z' s' e st hv=>?_)
   rw [J,Rs.bind_ok e] at u ⊢
   rcases uX u with ⟨q,r⟩ | ⟨q,r⟩
   ·rw [r] at u ⊢
    refine truthy_ok st.inv hv q λ t=>?_
    rw [c7 rfl]
    have D:=st.trans (Step.toks st.inv st.loc t)
    exact j0 ((Jb pos B).1 W' Z' _ D.inv D.loc u) (λ c s' h=>h.after D) λ e s' h=>h.after D
   ·rw [r]
    refine truthy_ok st.inv hv q λ t=>?_
    rw [zX1]
    exact qM rfl (st.trans (Step.toks st.inv st.loc t)) hv
  ·refine isTrue_and (qCu Ja.2 I L (V Z (qPl u)) λ bb v Z' W' s' e U st=>?_)
   cases bb with
   | true =>
    have Y:tr (ev cx (.and a b)) Z=tr (ev cx b) Z':=by
     show (ev cx (.and a b) Z).bind kN=_
     rw [J,Rs.bind_ok e]
     unfold condR; rw [U]; rfl
    rw [Y] at u ⊢
    rw [c7 rfl]
    exact j0 ((Jb pos B).2 W' Z' s' st.inv st.loc u) (λ c s' h=>h.after st) λ e s' h=>h.after st
   | false =>
    rw [zX1]
    refine ⟨Z',W',?_,st⟩
    have e1:ev cx (.and a b) Z=.ok v Z':=by rw [J,Rs.bind_ok e]; unfold condR; rw [U]
    rw [yD e1,zG U]
theorem qPu {a b:X} {sc:Scope} {e:Expr} {es:List Expr} (ia:Snd P cx a sc (.e e)) (ib:Snd P cx b sc (.ofOr es)) (F:Fm P cx.lvl fr A env) (S:ScOk sc env) (pos:Pos) (B:Sem g9) :
  OkE P fr A env (eval (.BoolOp .Or (e::es) pos) env) (ev cx (.or a b))/\OkB P fr A env (isTrue (.BoolOp .Or (e::es) pos) env B) (tr (ev cx (.or a b))):=by
 have Ja:=ia fr A env F S
 obtain ⟨hn,Jb⟩:=zEv ib F S
 have J:∀ Z,ev cx (.or a b) Z=(ev cx a Z).bind λ O a0=>condR O a0 (λ a0=>.ok O a0) (ev cx b):=λ z=>rfl
 have V:∀ Z,ev cx (.or a b) Z≠.bad->tr (ev cx a) Z≠.bad:=λ Z h=>by
  rw [J] at h
  cases T:ev cx a Z with
  | ok v a0 =>
   rw [T] at h
   rw [yD T]
   rcases uX (h:condR v a0 _ _≠.bad) with ⟨q,_⟩ | ⟨q,_⟩ <;> rw [zG q] <;> intro q' <;> cases q'
  | bad=>rw [T] at h; exact f8 rfl h
 match es,hn,Jb with
 | [],hn,_=>exact f8 rfl hn
 | aL::r,_,Jb =>
  refine ⟨λ W Z s I L u=>?_,λ W Z s I L u=>?_⟩
  ·refine BoolOp_or (zU (k:=λ O a0=>condR O a0 (λ a0=>.ok O a0) (ev cx b)) Ja.1 I L u (λ e s' h=>h) λ v c W' Z' s' e st hv=>?_)
   rw [J,Rs.bind_ok e] at u ⊢
   rcases uX u with ⟨q,r⟩ | ⟨q,r⟩
   ·rw [r]
    refine truthy_ok st.inv hv q λ t=>?_
    rw [c7 rfl]
    exact qM rfl (st.trans (Step.toks st.inv st.loc t)) hv
   ·rw [r] at u ⊢
    refine truthy_ok st.inv hv q λ t=>?_
    rw [zX1]
    have D:=st.trans (Step.toks st.inv st.loc t)
    exact j0 ((Jb pos B).1 W' Z' _ D.inv D.loc u) (λ c s' h=>h.after D) λ e s' h=>h.after D
  ·refine isTrue_or (qCu Ja.2 I L (V Z (qPl u)) λ bb v Z' W' s' e U st=>?_)
   cases bb with
   | false =>
    have Y:tr (ev cx (.or a b)) Z=tr (ev cx b) Z':=by
     show (ev cx (.or a b) Z).bind kN=_
     rw [J,Rs.bind_ok e]
     unfold condR; rw [U]; rfl
    rw [Y] at u ⊢
    rw [zX1]
    exact j0 ((Jb pos B).2 W' Z' s' st.inv st.loc u) (λ c s' h=>h.after st) λ e s' h=>h.after st
   | true =>
    rw [c7 rfl]
    refine ⟨Z',W',?_,st⟩
    have e1:ev cx (.or a b) Z=.ok v Z':=by rw [J,Rs.bind_ok e]; unfold condR; rw [U]
    rw [yD e1,zG U]
theorem zDu {sc:Scope} {a b:X} {e:Expr} {es:List Expr} {p:Pos} (B:Snd P cx a sc (.e e)) (u:Snd P cx b sc (.ofAnd es)):Snd P cx (.and a b) sc (.e (.BoolOp .And (e::es) p)):=λ fr A env F S=>qLu B u F S p _
theorem qXb {sc:Scope} {a b:X} {e:Expr} {es:List Expr} (D:Snd P cx a sc (.e e)) (B:Snd P cx b sc (.ofAnd es)):Snd P cx (.and a b) sc (.an (e::es)):=λ fr A env F S=>⟨by simp,λ pos u=>qLu D B F S pos u⟩
theorem zKv {sc:Scope} {a b:X} {e:Expr} {es:List Expr} {p:Pos} (B:Snd P cx a sc (.e e)) (u:Snd P cx b sc (.ofOr es)):Snd P cx (.or a b) sc (.e (.BoolOp .Or (e::es) p)):=λ fr A env F S=>qPu B u F S p _
theorem zDk {sc:Scope} {a b:X} {e:Expr} {es:List Expr} (D:Snd P cx a sc (.e e)) (B:Snd P cx b sc (.ofOr es)):Snd P cx (.or a b) sc (.or (e::es)):=λ fr A env F S=>⟨by simp,λ pos u=>qPu D B F S pos u⟩
theorem zDr {sc:Scope} {a i:X} {v B:Expr} {p:Pos} (T:Snd P cx a sc (.e v)) (O:Snd P cx i sc (.e B)) (h3:qCf B=false):Snd P cx (.idx a i) sc (.e (.Subscript v B p)):=λ fr A env F S =>
 have D:OkE P fr A env (eval (.Subscript v B p) env) (ev cx (.idx a i)):=λ W Z s I L u =>
  Subscript_ (qWb (T fr A env F S).1 (O fr A env F S).1 I L u λ W Z s Y U ca V I L ha J u=>zHv I L ha J u h3)
 ⟨D,qO D λ q=>rfl⟩
theorem qPs {x:X} {sc:Scope} {o:Option Expr} (u:Snd P cx x sc (.ofO o)) (F:Fm P cx.lvl fr A env) (S:ScOk sc env):OkE P fr A env (evalPart o env) (ev cx x):=by
 cases o with
 | none=>exact u fr A env F S
 | some e=>exact (u fr A env F S).1
theorem zDj {sc:Scope} {a D hi:X} {v:Expr} {l u:Option Expr} {p U:Pos} (ia:Snd P cx a sc (.e v)) (il:Snd P cx D sc (.ofO l)) (ih:Snd P cx hi sc (.ofO u)):Snd P cx (.slc a D hi) sc (.e (.Subscript v (.Slice l u Option.none U) p)):=by
 intro fr A env F S
 have Ja:=ia fr A env F S
 have Jl:=qPs il F S
 have Jh:=qPs ih F S
 have O:OkE P fr A env (eval (.Subscript v (.Slice l u Option.none U) p) env) (ev cx (.slc a D hi)):=λ W Z s I L B=>by
  have a5:ev cx (.slc a D hi) Z=(ev cx a Z).bind λ va a0=>(ev cx D a0).bind λ vl a7=>(ev cx hi a7).bind λ Y aG=>(wX aG.toHp va vl Y).st aG:=rfl
  rw [a5] at B ⊢
  refine Subscript_ (zU Ja.1 I L B (λ e s' h=>h) λ va ca aB a0 a8 aF J a4=>?_)
  rw [Rs.bind_ok aF] at B ⊢
  refine wpAny_Slice (qMg Jl Jh J.inv J.loc B (λ e s' h=>h.after J) λ aM aG aK vl Y cl ch aP T V a1=>?_)
  rw [aP] at B ⊢
  have st:=J.trans T
  refine d9 (j0 (zDw st.inv st.loc (a4.mono T.nx.wle T.nx.le) V a1 B) (λ c s' h=>h.after st) λ e s' h=>h.after st)
 exact ⟨O,qO O λ q=>rfl⟩
theorem qXa (C:CxOk P cx) {sc:Scope} {o:X} {f:Str} {e:Expr} {p:Pos} (U:Snd P cx o sc (.e e)) (h2:qRh e):Snd P cx (.attr o f) sc (.e (.Attribute e f p)):=by
 intro fr A env F S
 have Jo:=U fr A env F S
 have D:OkE P fr A env (eval (.Attribute e f p) env) (ev cx (.attr o f)):=λ W Z s I L u=>by
  show wpAny P.M A (do
   let J ← attributeBase e f env (eval e env)
   standAt p.atName
   let r ← holding [J] (getAttr J f true)
   letTemporaryGo e J r
   pure r) _ _ s
  rw [h2]
  refine d3 (zU (k:=λ vo a0=>(cx.fld vo f a0.toHp).st a0) Jo.1 I L u (λ e s' h=>h) λ vo Y V a0 a8 aF B O=>?_)
  have T:ev cx (.attr o f) Z=(cx.fld vo f a0.toHp).st a0:=Rs.bind_ok aF
  rw [T] at u ⊢
  refine d3 (eE (d3 (l8 (j0 (C.fld fr A env F V a0 a8 B.inv B.loc vo f Y O u) (λ c s' h=>?_) λ e s' h=>h.after B))))
  exact d3 (wpAny_letTemporaryGo (d9 (h.after B)))
 exact ⟨D,qO D λ q=>rfl⟩
theorem qEt {e:Expr} {r:List Expr} (h:∀ x p,e≠.Starred x p):starEach (e::r) env=(false,eval e env)::starEach r env:=by
 cases e <;> first | rfl | exact f8 rfl (h _ _)
theorem qKh {e:Expr} (h:qDu e=false):∀ x p,e≠.Starred x p:=by
 rintro x p rfl
 exact zT1 h
theorem zDm {sc:Scope}:Snd P cx .nil sc (.es []):=λ fr A env F S pos=>⟨rfl,rfl,λ W Z s I L q=>Calls.spliced_nil ⟨_,Z,W,rfl,Step.refl I L,.nil⟩⟩
theorem qWw {sc:Scope} {a b:X} {e:Expr} {r:List Expr} (ia:Snd P cx a sc (.e e)) (ib:Snd P cx b sc (.es r)) (hs:qDu e=false):Snd P cx (.cons a b) sc (.es (e::r)):=by
 intro fr A env F S
 have Ja:=ia fr A env F S
 have Jb:=ib fr A env F S
 intro pos
 have a1:=qEt (env:=env) (r:=r) (qKh hs)
 obtain ⟨q1,q2,Jb⟩:=Jb pos
 have O:backTo pos (starEach (e::r) env)=(false,eval e env)::backTo pos (starEach r env):=by rw [a1]; rfl
 rw [O]
 refine ⟨by simpa using q1,by simpa using q2,λ W Z s I L u=>?_⟩
 have Y:wH (ev cx (.cons a b)) Z=(ev cx a Z).bind λ B a0=>(wH (ev cx b) a0).bind λ vs a7=>.ok (B::vs) a7:=by
  show ((ev cx a Z).bind λ B a0=>(ev cx b a0).bind λ vs a7=>jH vs a7 λ xs a7=>Rs.ok (V.list (B::xs)) a7).bind _=_
  cases ev cx a Z with
  | ok B a0 =>
   show ((ev cx b a0).bind _).bind _=((ev cx b a0).bind _).bind _
   cases ev cx b a0 with
   | ok vs a7=>cases vs <;> rfl
   | bad=>rfl
  | bad=>rfl
 rw [Y] at u ⊢
 refine Calls.spliced_cons (zU Ja.1 I L u (λ e s' h=>h) λ B ca aB a0 a8 aF J U=>?_)
 rw [Rs.bind_ok aF] at u ⊢
 refine j0 (Jb aB a0 a8 J.inv J.loc (Rs.bind_ne u)) (λ cs aH ⟨vs,a7,aE,aL,D,T⟩=>?_) (λ e s' h=>h.elim)
 rw [Rs.bind_ok aL]
 exact ⟨_,a7,aE,rfl,J.trans D,.cons (U.mono D.nx.wle D.nx.le) T⟩
theorem qVg {f:St->Rs V} {xs:List V} {Z Z':St} (h:wH f Z=.ok xs Z'):f Z=.ok (.list xs) Z':=by
 unfold wH at h
 cases u:f Z with
 | ok v a0 =>
  rw [u] at h
  have h':jH v a0 (λ xs Z'=>Rs.ok xs Z')=.ok xs Z':=h
  cases v <;> first | cases h' | skip
  rfl
 | bad=>rw [u] at h; cases h
theorem vV {β:Type} {t:Sem (Lv)} {f:St->Rs V} {G:Lv->d6->Prop} {k:List V->St->Rs β} {E:Pv}
  (J:OkL P fr A env t (wH f)) (I:Inv P fr W Z.toHp s) (L:Loc P env W Z s.heap) (u:((f Z).bind λ v Z'=>jH v Z' k)≠.bad)
  (O:∀ e s',NoE e s'->E e s')
  (hg:∀ xs cs W' Z' s',((f Z).bind λ v Z'=>jH v Z' k)=k xs Z'->Step P fr env W Z s W' Z' s'->VRs W' Z'.nxt xs cs->G cs s'):wpAny P.M A t G E s:=by
 have B:wH f Z≠.bad:=by
  unfold wH
  cases D:f Z with
  | ok v a0 =>
   rw [D] at u
   cases v <;> first | exact f8 rfl u | (intro q; cases q)
  | bad=>rw [D] at u; exact f8 rfl u
 exact j0 (J W Z s I L B) (λ cs s' ⟨xs,Z',W',e,st,hv⟩=>hg xs cs W' Z' s' (by rw [Rs.bind_ok (qVg e)]; rfl) st hv) (λ e s' h=>O e s' h.elim)
set_option tactic.hygienic true in
theorem uT {n:Nat} {r:Rs V} (h:fits n r≠.bad):n<=g0/\fits n r=r:=by
 unfold fits at h ⊢
 split at h
 ·rename_i q; exact ⟨q,c7 q⟩
 ·exact f8 rfl h
theorem qWu {sc:Scope} {es:X} {l:List Expr} {p:Pos} (T:Snd P cx es sc (.es l)):Snd P cx (.list es) sc (.e (.List l p)):=by
 intro fr A env F S
 have Je:=(T fr A env F S) p
 have D:OkE P fr A env (eval (.List l p) env) (ev cx (.list es)):=λ W Z s I L u=>by
  refine List_ (vV (k:=λ xs a0=>fits xs.length (.ok (.list xs) a0)) Je.2.2 I L u (λ e s' h=>h) λ xs cs W' Z' s' e st hv=>?_)
  have J:ev cx (.list es) Z=fits xs.length (.ok (.list xs) Z'):=e
  rw [J] at u ⊢
  obtain ⟨O,r⟩:=uT u
  rw [r]
  have B:cs.length<=g0:=by rw [hv.length]; exact O
  exact v2 (Post.after st (jK (items:=cs.toArray) st.inv st.loc (by simpa using hv) (by simpa using B) rfl rfl rfl)) (by show cs.toArray.size<=g0; rw [n7]; exact B)
 exact ⟨D,qO D λ q=>rfl⟩
theorem zDh {sc:Scope} {es:X} {l:List Expr} {J:Nat} {p:Pos} (U:Snd P cx es sc (.es l)):Snd P cx (.tup es) sc (.e (.Tuple l J p)):=by
 intro fr A env F S
 have Je:=(U fr A env F S) p
 have D:OkE P fr A env (eval (.Tuple l J p) env) (ev cx (.tup es)):=λ W Z s I L u=>by
  refine Tuple_ (vV (k:=λ xs a0=>fits xs.length (.ok (.tup xs) a0)) Je.2.2 I L u (λ e s' h=>h) λ xs cs W' Z' s' e st hv=>?_)
  have O:ev cx (.tup es) Z=fits xs.length (.ok (.tup xs) Z'):=e
  rw [O] at u ⊢
  obtain ⟨T,r⟩:=uT u
  rw [r]
  have B:cs.length<=g0:=by rw [hv.length]; exact T
  exact v2 (Post.after st (qTf (items:=cs.toArray) st.inv st.loc (by simpa using hv) (by simpa using B) rfl rfl rfl)) (by show cs.toArray.size<=g0; rw [n7]; exact B)
 exact ⟨D,qO D λ q=>rfl⟩
theorem qWy (C:CxOk P cx) {sc:Scope} {f as:X} {n:Str} {D p:Pos} {l:List Expr} (jf:Snd P cx f sc (.e (.Name n D))) (ja:Snd P cx as sc (.es l)):Snd P cx (.call f as) sc (.e (.Call (.Name n D) l [] p)):=by
 intro fr A env F S
 have Jf:=jf fr A env F S
 have Ja:=(ja fr A env F S) p
 have J:OkE P fr A env (eval (.Call (.Name n D) l [] p) env) (ev cx (.call f as)):=λ W Z s I L u=>by
  have V:ev cx (.call f as) Z=(ev cx f Z).bind λ vf a0=>(ev cx as a0).bind λ vs a7=>jH vs a7 λ xs a7=>(cx.app vf xs a7.toHp).lift a7:=rfl
  rw [V] at u ⊢
  show wpAny P.M A (do callWith p (← eval (.Name n D) env) [] (backTo p (starEach l env)) []) _ _ s
  refine d3 (zU Jf.1 I L u (λ e s' h=>h) λ vf cf aB a0 a8 aF B T=>?_)
  rw [Rs.bind_ok aF] at u ⊢
  refine kS Ja.1 (vV (k:=λ xs a7=>(cx.app vf xs a7.toHp).lift a7) Ja.2.2 B.inv B.loc u (λ e s' h=>h.after B) λ xs cs aE a7 aH aL O U=>?_)
  rw [aL] at u ⊢
  have st:=B.trans O
  obtain ⟨Y,k2⟩:=C.app fr A env F aE a7 aH st.inv st.loc vf xs cf cs (T.mono O.nx.wle O.nx.le) U u
  exact ⟨Y,j0 k2 (λ c s' h=>h.after st) λ e s' h=>h.after st⟩
 exact ⟨J,qO J λ q=>rfl⟩
theorem qWt (C:CxOk P cx) {sc:Scope} {o as:X} {m:Str} {e:Expr} {B p:Pos} {l:List Expr} (jo:Snd P cx o sc (.e e)) (ja:Snd P cx as sc (.es l)) (h3:qRh e) (U:(decide (l.length < 30) && B.endLine == p.line)=true):Snd P cx (.meth o m as) sc (.e (.Call (.Attribute e m B) l [] p)):=by
 intro fr A env F S
 simp only [d8,j4,j8] at U
 obtain ⟨h4,h5⟩:=U
 have Jo:=jo fr A env F S
 have Ja:=(ja fr A env F S) p
 have V:OkE P fr A env (eval (.Call (.Attribute e m B) l [] p) env) (ev cx (.meth o m as)):=λ W Z s I L u=>by
  have a5:ev cx (.meth o m as) Z=(ev cx o Z).bind λ vo a0=>match cx.get vo m a0.toHp with
   | some (vf,first)=>(ev cx as a0).bind λ vs a7=>jH vs a7 λ xs a7=>(cx.app vf (first++xs) a7.toHp).lift a7
   | Option.none=>.bad:=rfl
  rw [a5] at u ⊢
  have T:methodCallForm (l.length+([]:List nJ).length) (backTo p (starEach l env)) (backToKw p (keywordEach [] env))=true:=by
   unfold methodCallForm
   have q:(backTo p (starEach l env)).all (λ x=>!x.1)=true:=by
    rw [fQ]
    intro x hx
    have:=List.any_eq_false.mp Ja.1 x hx
    simpa using this
   rw [q]
   show (true && true && decide (l.length+0+0 < 30))=true
   simpa using h4
  have Y:methodCallPos true e env B p=pure p:=by unfold methodCallPos; simp [h5]
  show wpAny P.M A (do
   let ov ← attributeBase e m env (eval e env)
   standAt B.atName
   methodCall e m B p env ov (l.length+([]:List nJ).length) (backTo p (starEach l env)) (backToKw p (keywordEach [] env))) _ _ s
  rw [h3]
  refine d3 (zU Jo.1 I L u (λ e s' h=>h) λ vo co aB a0 a8 aF a9 a2=>d3 (eE ?_))
  rw [Rs.bind_ok aF] at u ⊢
  cases D:cx.get vo m a0.toHp with
  | none=>rw [D] at u; exact f8 rfl u
  | some r0 =>
   obtain ⟨vf,first⟩:=r0
   rw [D] at u
   dsimp only at u ⊢
   unfold methodCall
   rw [T]
   refine d3 (l8 (C.get fr A env F aB a0 a8 a9.inv a9.loc vo m co vf first a2 D _ _ _ λ r aH aE aA hf a4=>?_))
   refine d3 (v6 Y ?_)
   have st:=a9.trans aA
   refine kS Ja.1 (vV (k:=λ xs a7=>(cx.app vf (first++xs) a7.toHp).lift a7) Ja.2.2 st.inv st.loc u (λ e s' h=>h.after st) λ xs cs aM aG aK aP O a3=>?_)
   rw [aP] at u ⊢
   have J:=st.trans O
   obtain ⟨k1,k2⟩:=C.app fr A env F aM aG aK J.inv J.loc vf (first++xs) r.1 (r.2++cs) (hf.mono O.nx.wle O.nx.le) ((a4.mono O.nx.wle O.nx.le).append a3) u
   exact ⟨k1,j0 k2 (λ c s' h=>h.after J) λ e s' h=>h.after J⟩
 exact ⟨V,qO V λ z=>rfl⟩
end
structure Out (P:Par) (fr:Ln) (W:Wd) (n:Nat) (a:Nat):Prop where
 notB:P.B.get? a=none
 notFr:a ∉ fr
 notFz:W.fz a=none
 notOwn:∀ k,k < n->W.ρ k≠a
section
variable {P:Par} {fr:Ln} {A:n6} {env:Env} {W W':Wd} {Z Z':St} {s s' s'':d6} {cx:Cx}
theorem Out.new (I:Inv P fr W Z.toHp s) {a:Nat} (h:s.heap.get? a=none):Out P fr W Z.nxt a where
 notB:=by
  cases q:P.B.get? a with
  | none=>rfl
  | some o=>have:=I.keep _ _ q; rw [h] at this; cases this
 notFr:=λ u=>by obtain ⟨o,e,_⟩:=(I.frB _ u).2; rw [h] at e; cases e
 notFz:=by
  cases q:W.fz a with
  | none=>rfl
  | some o=>have:=(I.frz _ _ q).1; rw [h] at this; cases this
 notOwn:=λ k hk q=>by obtain ⟨o,e⟩:=I.live k hk; rw [q,h] at e; cases e
theorem Out.step {B:Ln} {L:Nat} {n u:Nat} {h h':mS} {a:Nat} {o:Obj} (x:Out P fr W n a) (e:h.get? a=some o) (nx:Nx B L W n h W' u h'):Out P fr W' u a where
 notB:=x.notB
 notFr:=x.notFr
 notFz:=by
  cases q:W'.fz a with
  | none=>rfl
  | some c =>
   rcases nx.fzn a c q with r | r
   ·rw [x.notFz] at r; cases r
   ·rw [e] at r; cases r
 notOwn:=λ k hk q=>by
  by_cases hn:k < n
  ·rw [nx.wle.ρ k hn] at q; exact x.notOwn k hn q
  ·have:=nx.new k (Nat.not_lt.mp hn) hk; rw [q,e] at this; cases this
theorem Inv.outside (I:Inv P fr W Z.toHp s) {a:Nat} (x:Out P fr W Z.nxt a) (hk:∀ b o,b≠a->s.heap.get? b=some o->s'.heap.get? b=some o) (hg:s'.gens=s.gens) (u:s'.os=s.os):Inv P fr W Z.toHp s' where
 keep:=λ b o e=>hk b o (by rintro rfl; rw [x.notB] at e; cases e) (I.keep b o e)
 old:=I.old
 live:=λ k h=>let ⟨o,e⟩:=I.live k h; ⟨o,hk _ _ (x.notOwn k h) e⟩
 nofr:=I.nofr
 nofz:=I.nofz
 inj:=I.inj
 obj:=λ k o e=>let ⟨p,c,b,d⟩:=I.obj k o e; ⟨p,c,hk _ _ (x.notOwn k p) b,d⟩
 frz:=λ b c e=>⟨hk _ _ (by rintro rfl; rw [x.notFz] at e; cases e) (I.frz b c e).1,(I.frz b c e).2⟩
 frB:=λ b h=>⟨(I.frB b h).1,let ⟨o,e,d⟩:=(I.frB b h).2; ⟨o,hk _ _ (by rintro rfl; exact x.notFr h) e,d⟩⟩
 gens:=hg.trans I.gens
 os:=u.trans I.os
 exc:=I.exc
 tab0:=I.tab0
theorem Step.aside (st:Step P fr env W Z s W' Z' s') (hL:env.locals∈fr) {a:Nat} (hn:s.heap.get? a=none) (x:Out P fr W' Z'.nxt a) (hk:∀ b o,b≠a->s'.heap.get? b=some o->s''.heap.get? b=some o) (hg:s''.gens=s'.gens) (L:s''.os=s'.os) :
  Step P fr env W Z s W' Z' s'':=by
 refine ⟨⟨st.nx.wle,st.nx.le,λ b o e=>?_,st.nx.new,st.nx.fzn,λ b o e D S h2=>?_,λ b o D h2 e=>?_⟩,st.inv.outside x hk hg L,?_⟩
 ·obtain ⟨u,B⟩:=st.nx.live b o e
  exact ⟨u,hk b u (by rintro rfl; rw [hn] at e; cases e) B⟩
 ·exact hk b o (by rintro rfl; rw [hn] at e; cases e) (st.nx.ext b o e D S h2)
 ·obtain ⟨u,B,V⟩:=st.nx.fext b o D h2 e
  exact ⟨u,hk b u (by rintro rfl; rw [hn] at e; cases e) B,V⟩
 ·obtain ⟨m,J,U⟩:=st.loc.loc
  obtain ⟨T,es,O,e1,r⟩:=J
  exact ⟨st.loc.kind,st.loc.glob,st.loc.bns,⟨m,⟨T,es,O,hk _ _ (by rintro rfl; exact x.notFr hL) e1,r⟩,U⟩,st.loc.cel,st.loc.cod⟩
theorem Inv.weaken {C:Nat} (I:Inv P (C::fr) W Z.toHp s):Inv P fr W Z.toHp s :=
 ⟨I.keep,I.old,I.live,λ k h q=>I.nofr k h (.tail _ q),I.nofz,I.inj,I.obj,λ a c e=>⟨(I.frz a c e).1,λ q=>(I.frz a c e).2 (.tail _ q)⟩,λ a h=>I.frB a (.tail _ h),I.gens,I.os,I.exc,I.tab0⟩
theorem Inv.under (I:Inv P fr W Z.toHp s) {C:Nat} {o:Obj} (x:Out P fr W Z.nxt C) (e:s.heap.get? C=some o) (hd:∀ vs,o.data≠.fields vs):Inv P (C::fr) W Z.toHp s where
 keep:=I.keep
 old:=I.old
 live:=I.live
 nofr:=λ k h q=>by
  rcases List.mem_cons.mp q with q | q
  ·exact x.notOwn k h q
  ·exact I.nofr k h q
 nofz:=I.nofz
 inj:=I.inj
 obj:=I.obj
 frz:=λ a c h=>⟨(I.frz a c h).1,λ q=>by
  rcases List.mem_cons.mp q with q | q
  ·subst q; rw [x.notFz] at h; cases h
  ·exact (I.frz a c h).2 q⟩
 frB:=λ a h=>by
  rcases List.mem_cons.mp h with q | q
  ·subst q; exact ⟨x.notB,o,e,hd⟩
  ·exact I.frB a q
 gens:=I.gens
 os:=I.os
 exc:=I.exc
 tab0:=I.tab0
theorem Step.inner {C:Nat} {J:Env} {W'':Wd} {a0 a7:St} (st:Step P fr env W Z s W' Z' s') (hL:env.locals∈fr) (hn:s.heap.get? C=none) (U:J.locals=C) (a2:C≠env.locals) (he:a0.toHp=Z'.toHp)
  (r:Step P (C::fr) J W' a0 s' W'' a7 s''):Step P fr env W Z s W'' { Z' with toHp:=a7.toHp } s'':=by
 have B:a0.nxt=Z'.nxt:=g8 Hp.nxt he
 have T:Z'.nxt<=a7.nxt:=B ▸ r.nx.le
 have O:Wle Z'.nxt W' W'':=B ▸ r.nx.wle
 refine ⟨⟨st.nx.wle.trans st.nx.le O,d5 st.nx.le T,λ b o e=>?_,λ k D h2=>?_,λ a c e=>?_,λ b o e D Y h2=>?_,λ b o D h2 e=>?_⟩,Inv.weaken (Z:=a7) r.inv,?_⟩
 ·obtain ⟨S,u⟩:=st.nx.live b o e; exact r.nx.live b S u
 ·by_cases hk:k < Z'.nxt
  ·rw [O.ρ k hk]; exact st.nx.new k D hk
  ·cases q:s.heap.get? (W''.ρ k) with
   | none=>rfl
   | some o=>obtain ⟨S,u⟩:=st.nx.live _ _ q; rw [r.nx.new k (by rw [B]; exact Nat.not_lt.mp hk) h2] at u; cases u
 ·rcases r.nx.fzn a c e with q | q
  ·exact st.nx.fzn a c q
  ·right
   cases hq:s.heap.get? a with
   | none=>rfl
   | some o=>obtain ⟨S,u⟩:=st.nx.live _ _ hq; rw [q] at u; cases u
 ·have e1:=st.nx.ext b o e D Y h2
  refine r.nx.ext b o e1 (by rw [U]; rintro rfl; rw [hn] at e; cases e) (λ hm=>by
   rcases List.mem_cons.mp hm with q | q
   ·subst q; rw [hn] at e; cases e
   ·exact Y q) λ k hk q=>?_
  rw [B] at hk
  by_cases L:k < Z.nxt
  ·rw [st.nx.wle.ρ k L] at q; exact h2 k L q
  ·have:=st.nx.new k (Nat.not_lt.mp L) hk; rw [q,e] at this; cases this
 ·obtain ⟨S,u,d'⟩:=st.nx.fext b o D h2 e
  obtain ⟨V,a1,a3⟩:=r.nx.fext b S (.tail _ D) (by rw [U]; rintro rfl; rw [hn] at e; cases e) u
  exact ⟨V,a1,a3.trans d'⟩
 ·obtain ⟨m,q1,q2⟩:=st.loc.loc
  obtain ⟨oL,es,ep,e1,dd,rr⟩:=q1
  obtain ⟨X,e2,d2⟩:=r.nx.fext _ _ (.tail _ hL) (by rw [U]; exact eO a2) e1
  exact ⟨st.loc.kind,st.loc.glob,st.loc.bns,⟨m,⟨X,es,ep,e2,d2.trans dd,rr⟩,λ x v h=>let ⟨p,c,q,rv⟩:=q2 x v h; ⟨p,c,q,rv.mono O T⟩⟩,
   λ x k h=>let ⟨p,q⟩:=st.loc.cel x k h; ⟨m0 p T,λ hk=>by rw [O.ρ k p]; exact q hk⟩,
   λ k q h=>let ⟨p,r⟩:=st.loc.cod k q h; ⟨m0 p T,by rw [O.ρ k p]; exact r⟩⟩
theorem Step.freezeLate (st:Step P fr env W Z s W' Z' s') {a:Nat} {o:Obj} (hn:s.heap.get? a=none) (e:s'.heap.get? a=some o) (x:Out P fr W' Z'.nxt a):Step P fr env W Z s (W'.freeze a o) Z' s':=by
 have D:∀ b,(W'.freeze a o).fz b=if b=a then some o else W'.fz b:=λ z=>rfl
 have L:∀ b c,W'.fz b=some c->(W'.freeze a o).fz b=some c:=λ b c h=>by
  rw [D,d0]; exact h
  rintro rfl; rw [x.notFz] at h; cases h
 have B:Wle Z'.nxt W' (W'.freeze a o):=⟨λ z z=>rfl,L⟩
 have J:=st.inv
 refine ⟨⟨st.nx.wle.trans st.nx.le B,st.nx.le,st.nx.live,st.nx.new,λ b c h=>?_,st.nx.ext,st.nx.fext⟩,⟨J.keep,J.old,J.live,J.nofr,λ k h=>?_,J.inj,λ k O h=>?_,λ b c h=>?_,J.frB,J.gens,J.os,λ e o h=>B.fz _ _ (J.exc e o h),J.tab0⟩,?_⟩
 ·rw [D] at h
  by_cases u:b=a
  ·subst u; exact .inr hn
  ·rw [d0 u] at h; exact st.nx.fzn b c h
 ·show (if W'.ρ k=a then some o else W'.fz (W'.ρ k))=none
  rw [d0 (x.notOwn k h)]; exact J.nofz k h
 ·obtain ⟨p,c,b,d⟩:=J.obj k O h; exact ⟨p,c,b,d.mono B (d7 _)⟩
 ·rw [D] at h
  by_cases u:b=a
  ·subst u; rw [c7 rfl] at h; cases h; exact ⟨e,x.notFr⟩
  ·rw [d0 u] at h; exact J.frz b c h
 ·have J':=st.loc
  exact ⟨J'.kind,J'.glob,J'.bns,let ⟨m,a,b⟩:=J'.loc; ⟨m,a,λ x v h=>let ⟨p,c,q,r⟩:=b x v h; ⟨p,c,q,r.mono B (d7 _)⟩⟩,J'.cel,J'.cod⟩
inductive ItAt (W:Wd) (n:Nat) (h:mS) (I:Nat):V->Nat->Prop
 | list {v:V} {a:Nat} {i:Nat}:VR W n v (.ref a)->(∀ H,zV H v=qV H v)->h.IsListIter I a i->ItAt W n h I v i
 | tup {xs:List V} {a:Nat} {i:Nat}:VR W n (.tup xs) (.ref a)->h.IsTupleIter I a i->ItAt W n h I (.tup xs) i
 | rng {a b c:Int} {i:Nat}:IsRangeIter h I (a+(i:Int) * c) (m8 a b c - (i:Int)) c->ItAt W n h I (.rng a b c) i
theorem ItAt.mono {n u:Nat} {h h':mS} {I:Nat} {v:V} {i:Nat} (x:ItAt W n h I v i) (B:Wle n W W') (hn:n<=u) (hk:∀ o,h.get? I=some o->h'.get? I=some o):ItAt W' u h' I v i:=by
 cases x with
 | list a b c=>exact .list (a.mono B hn) b (let ⟨o,e,r⟩:=c; ⟨o,hk _ e,r⟩)
 | tup a c=>exact .tup (a.mono B hn) (let ⟨o,e,r⟩:=c; ⟨o,hk _ e,r⟩)
 | rng a=>exact .rng (hk _ a)
theorem ItAt.there {n:Nat} {h:mS} {I:Nat} {v:V} {i:Nat} (x:ItAt W n h I v i):∃ o,h.get? I=some o:=by
 cases x with
 | list a b c=>obtain ⟨o,e,_⟩:=c; exact ⟨o,e⟩
 | tup _ c=>obtain ⟨o,e,_⟩:=c; exact ⟨o,e⟩
 | rng a=>exact ⟨_,a⟩
theorem qDt {E:Pv} (I:Inv P fr W Z.toHp s) {v:V} {c:g9} {xs:List V} (hv:VR W Z.nxt v c) (e:zV Z.toHp v=some xs) {Q:Pv}
  (J:∀ O,ItAt W Z.nxt (s.heap.push O) s.heap.objs.size v 0->Q (.ref s.heap.objs.size) { s with heap:=s.heap.push O }):wpAny P.M A (pyIter c) Q E s:=by
 have u:qV Z.toHp v=some xs->(∀ H,zV H v=qV H v)->wpAny P.M A (pyIter c) Q E s:=λ B h2=>by
  obtain ⟨a,items,rfl,T,_,_⟩:=xL I hv B
  exact wpAny_pyIter_list T (J _ (.list hv h2 ⟨_,r4 _ rfl,rfl,rfl⟩))
 refine bC λ L=>?_
 replace u:=λ a b=>L (u a b)
 have D:=hv.dat
 cases v with
 | rng a b c =>
  obtain ⟨_,_,_,_,rfl,S,hs⟩:=D
  refine L (wpAny_pyIter_range (I.frz _ _ S).1 hs (J _ (.rng ?_)))
  have e1:a+((0:Nat):Int) * c=a:=by simp
  have e2:m8 a b c - ((0:Nat):Int)=m8 a b c:=by simp
  rw [e1,e2]
  exact r4 _ rfl
 | tup =>
  obtain ⟨_,_,_,_,rfl,B,h2,h3,h4,h5⟩:=D
  exact L (wpAny_pyIter_tuple ⟨_,(I.frz _ _ B).1,h2,_,h3⟩ (J _ (.tup (.tup B h2 h3 h4 h5) ⟨_,r4 _ rfl,rfl,rfl⟩)))
 | list=>exact u e λ q=>rfl
 | ref=>exact u e λ q=>rfl
 | _=>exact zN1 e
theorem qOd {E:Pv} {v:V} {n i Ia:Nat} (x:ItAt W n s.heap Ia v i) {Q:Pv} (u:Q (.ref Ia) s):wpAny P.M A (pyIter (.ref Ia)) Q E s:=by
 cases x with
 | list a b c=>exact wpAny_pyIter_listiter c u
 | tup _ c=>exact wpAny_pyIter_tupleiter c u
 | rng a=>exact wpAny_pyIter_rangeiter a u
theorem qGi {E:Pv} (I:Inv P fr W Z.toHp s) {v:V} {xs:List V} {i Ia:Nat} {x:V} (hi:ItAt W Z.nxt s.heap Ia v i) (e:zV Z.toHp v=some xs) (hx:xs[i]? = some x) {Q:Option g9->d6->Prop}
  (D:∀ c h' t,VR W Z.nxt x c->ItAt W Z.nxt h' Ia v (i+1)->gC Ia s.heap h'->Q (some c) { s with heap:=h',toks:=t }):wpAny P.M A (pyNext (.ref Ia)) Q E s:=by
 cases hi with
 | list a b c =>
  have B:qV Z.toHp v=some xs:=(b _).symm.trans e
  obtain ⟨l,items,q,J,hr,O⟩:=xL I a B
  cases q
  obtain ⟨cx,g1,g2⟩:=hr.get hx
  exact wpAny_pyNext_list_item c J (by rw [← dI]; exact g1) λ h' u hs=>D cx h' s.toks g2 (.list a b u) hs
 | tup a c =>
  cases e
  obtain ⟨t,o,items,L,q,B,h2,h3,h4⟩:=qMd I a
  cases q
  obtain ⟨cx,g1,g2⟩:=h4.get hx
  exact wpAny_pyNext_tuple_item c ⟨o,B,h2,L,h3⟩ (by rw [← dI]; exact g1) λ h' u hs=>D cx h' s.toks g2 (.tup a u) hs
 | @rng a b c _ r =>
  cases e
  rw [hA] at hx
  obtain ⟨j,B,rfl⟩:=Option.map_eq_some_iff.mp hx
  have h2:i < (m8 a b c).toNat:=by
   have:=(List.getElem?_eq_some_iff.mp B).1
   simpa using this
  have h3:j=i:=by
   rw [List.getElem?_range h2] at B; cases B; rfl
  subst h3
  refine wpAny_pyNext_range_item r (by simp_all) λ h' u hs=>D _ h' _ (.int _ _) (.rng ?_) hs
  have e1:a+((j+1:Nat):Int) * c=a+(j:Int) * c+c:=by push_cast; rw [Int.add_mul,Int.one_mul,Int.add_assoc]
  have e2:m8 a b c - ((j+1:Nat):Int)=m8 a b c - (j:Int) - 1:=by push_cast; exact nA (Int.sub_sub _ (↑_) 1)
  rw [e1,e2]
  exact u
theorem qKv {E:Pv} (F:A.handled=none) (I:Inv P fr W Z.toHp s) {v:V} {xs:List V} {i Ia:Nat} (hi:ItAt W Z.nxt s.heap Ia v i) (e:zV Z.toHp v=some xs) (hx:xs[i]? = none) {Q:Option g9->d6->Prop}
  (u:∀ h',pW Ia s.heap h'->Q none { s with heap:=h' }):wpAny P.M A (pyNext (.ref Ia)) Q E s:=by
 cases hi with
 | list a b c =>
  have B:qV Z.toHp v=some xs:=(b _).symm.trans e
  obtain ⟨l,items,q,D,hr,L⟩:=xL I a B
  cases q
  refine wpAny_pyNext_list_end F c D ?_ u
  rw [lV]
  have:=hr.length
  rw [h9] at this
  have:=List.getElem?_eq_none_iff.mp hx
  lia
 | tup a c =>
  cases e
  obtain ⟨t,o,items,J,q,B,h2,h3,h4⟩:=qMd I a
  cases q
  refine wpAny_pyNext_tuple_end F c ⟨o,B,h2,J,h3⟩ ?_ u
  rw [lV]
  have:=h4.length
  rw [h9] at this
  have:=List.getElem?_eq_none_iff.mp hx
  lia
 | @rng a b c _ r =>
  cases e
  refine wpAny_pyNext_range_end F r ?_ u
  have:=List.getElem?_eq_none_iff.mp hx
  simp only [k0,List.length_range] at this
  exact m_b5 this
end
noncomputable def jG (env:Env):List (Str×s9)->List (Str×Addr)->List (Str×Addr)
 | [],cs=>cs
 | (n,k)::r,cs=>jG env r (if k == .free then (n,(env.cells.lookup n).getD 0)::cs else cs)
theorem qOs {env:Env} {n:Str} {k:s9} {r:List (Str×s9)} {cs:List (Str×Addr)}:jG env ((n,k)::r) cs=jG env r (if k == .free then (n,(env.cells.lookup n).getD 0)::cs else cs):=rfl
theorem qEg {env:Env} {scope:Scope} (h:∀ n,(n,NameKind.free)∈scope.names->∃ a,env.cells.lookup n=some a):closureFor scope env=pure (jG env scope.names []):=by
 have L:∀ (l:List (Str×s9)) (cs:List (Str×Addr)),(∀ n,(n,NameKind.free)∈l->∃ a,env.cells.lookup n=some a) ->
   (forIn l cs λ (x:Str×s9) (cs:List (Str×Addr))=>(if x.2 == NameKind.free then do let a ← cellOf env x.1; pure (fF ((x.1,a)::cs)) else pure (fF cs):Sem (ForInStep (List (Str×Addr)))))=pure (jG env l cs):=by
  intro l
  induction l with
  | nil=>intro cs _; rfl
  | cons p r J =>
   intro cs u
   obtain ⟨n,k⟩:=p
   rw [lQ]
   by_cases hk:(k == NameKind.free)=true
   ·have D:k=.free:=by simpa using hk
    subst D
    obtain ⟨a,ha⟩:=u n (.head _)
    rw [qOs]
    simp only [hk,pO]
    have hc:cellOf env n=pure a:=by unfold cellOf; rw [ha]
    rw [hc,pure_bind,pure_bind]
    rw [ha]
    exact J _ λ m B=>u m (.tail _ B)
   ·rw [qOs]
    simp only [hk]
    exact J _ λ m B=>u m (.tail _ B)
 unfold closureFor
 refine (g8 (· >>= _) (Eq.trans ?_ (L scope.names [] h))).trans ?_
 ·congr 1
 ·rfl
theorem xC {env:Env} {x:Str} {a:Addr} (ha:env.cells.lookup x=some a):∀ (l:List (Str×s9)) (cs:List (Str×Addr)),((x,NameKind.free)∈l\/cs.lookup x=some a)->(cs.lookup x=none\/cs.lookup x=some a)->(jG env l cs).lookup x=some a
 | [],cs,h,_=>h.elim (λ q=>nomatch q) id
 | (n,k)::r,cs,h,h2=>by
  rw [qOs]
  by_cases hk:(k == NameKind.free)=true
  ·rw [c7 hk]
   have B:k=.free:=by simpa using hk
   subst B
   by_cases hx:x=n
   ·subst hx
    refine xC ha r _ (.inr ?_) (.inr ?_) <;> simp [i8,ha]
   ·have u:(x == n)=false:=by simpa using hx
    refine xC ha r _ ?_ ?_
    ·rcases h with h | h
     ·left
      rcases List.mem_cons.mp h with q | q
      ·cases q; exact f8 rfl hx
      ·exact q
     ·right; simp only [i8,u]; exact h
    ·simp only [i8,u]; exact h2
  ·rw [d0 hk]
   refine xC ha r cs ?_ h2
   rcases h with h | h
   ·left
    rcases List.mem_cons.mp h with q | q
    ·cases q; exact f8 rfl hk
    ·exact q
   ·exact .inr h
theorem kX (env:Env) (x:Str):∀ names:List (Str×s9),(names.map λ (n,k)=>if (k == NameKind.free && env.scope.kind == .function && env.kindOf n == some .cell) then (n,NameKind.cell) else (n,k)).lookup x
  = (names.lookup x).map λ k=>if (k == NameKind.free && env.scope.kind == .function && env.kindOf x == some .cell) then NameKind.cell else k
 | []=>rfl
 | (n,k)::r=>by
  show i8 x ((if (k == NameKind.free && env.scope.kind == .function && env.kindOf n == some .cell)=true then (n,NameKind.cell) else (n,k))::_)=_
  by_cases hx:(x == n)=true
  ·have B:x=n:=by simpa using hx
   subst B
   by_cases hc:(k == NameKind.free && env.scope.kind == .function && env.kindOf x == some .cell)=true
   ·rw [c7 hc]; simp only [i8,hx,mR,c7 hc]
   ·rw [d0 hc]; simp only [i8,hx,mR,d0 hc]
  ·have u:(x == n)=false:=by simpa using hx
   have D:=kX env x r
   by_cases hc:(k == NameKind.free && env.scope.kind == .function && env.kindOf n == some .cell)=true
   ·rw [c7 hc]; simp only [i8,u]; exact D
   ·rw [d0 hc]; simp only [i8,u]; exact D
theorem qS {β:Type} {x:Str} {b:β}:∀ {l:List (Str×β)},l.lookup x=some b->(x,b)∈l
 | (y,c)::r,h=>by
  by_cases hx:(x == y)=true
  ·have u:x=y:=by simpa using hx
   subst u
   simp [i8] at h; subst h; exact .head _
  ·have B:(x == y)=false:=by simpa using hx
   simp only [i8,B] at h
   exact .tail _ (qS h)
theorem qPv {e:Expr} {env:Env} (h:kY e=false) (x:g9):foldedSetIterable e env x=pure x:=by
 cases e <;> first | rfl | exact zT1 h
structure ScopeOk (x:Str) (sc cs:Scope):Prop where
 kind:cs.kind=.function
 loc:cs.names.lookup x=some .local
 nocell:∀ p∈cs.names,p.2≠.cell
 locs:∀ p∈cs.names,p.2=.local->cs.names.lookup p.1=some .local
 free:∀ n,(n,NameKind.free)∈cs.names->sc.names.lookup n=some .cell\/sc.names.lookup n=some .free
theorem qPo {x:Str} {sc cs:Scope} (h:kQ x sc cs=true):ScopeOk x sc cs:=by
 unfold kQ at h
 simp only [d8,j8,fQ] at h
 obtain ⟨⟨u,h2⟩,h3⟩:=h
 refine ⟨u,h2,λ p hp q=>?_,λ p hp q=>?_,λ n hn=>?_⟩
 ·have:=(h3 p hp).1.1; rw [q] at this; exact zF1 this
 ·have:=(h3 p hp).1.2; rw [q] at this; simpa using this
 ·have:=(h3 _ hn).2; simpa using this
section
variable {P:Par} {fr:Ln} {A:n6} {env:Env} {W:Wd} {Z:St} {s:d6} {cx:Cx}
theorem qSq {x:Str} {sc cs:Scope} (S:ScOk sc env) (O:ScopeOk x sc cs) (C:Nat):ScOk cs (compEnvC cs (jG env cs.names []) C env):=by
 have hk:∀ y,(compEnvC cs (jG env cs.names []) C env).kindOf y=(cs.names.lookup y).map λ k=>if (k == NameKind.free && env.scope.kind == .function && env.kindOf y == some .cell) then NameKind.cell else k:=λ y=>kX env y cs.names
 refine ⟨λ y h=>?_,λ y h=>?_,λ y h=>?_,λ y h=>f8 rfl (O.nocell _ (qS h)),λ y h=>?_⟩
 ·rw [hk,h]; rfl
 ·rw [hk,h]; rfl
 ·rw [hk]
  rcases h with h | h
  ·exact f8 rfl (O.nocell _ (qS h))
  ·rw [h]
   simp only [mR]
   split <;> simp
 ·rw [hk] at h
  have J:cs.names.lookup y=some .free:=by
   cases u:cs.names.lookup y with
   | none=>rw [u] at h; simp at h
   | some k =>
    have B:=O.nocell _ (qS u)
    rw [u] at h
    simp only [mR,dF] at h
    by_cases hc:(k == NameKind.free && env.scope.kind == .function && env.kindOf y == some .cell)=true
    ·have:k=.free:=by simp only [d8,j8] at hc; exact hc.1.1
     rw [this]
    ·rw [d0 hc] at h
     rcases h with h | h
     ·exact f8 h B
     ·rw [h]
  have D:=qS J
  obtain ⟨a,ha⟩:=S.has y (S.cel y (O.free y D))
  exact ⟨a,xC ha _ _ (.inl D) (.inl rfl)⟩
theorem qYw {x:Str} {sc cs:Scope} (S:ScOk sc env) (O:ScopeOk x sc cs) {C:Nat} {h:mS} {m:Str->Option g9} {v:V} {c:g9} (L:Loc P env W Z h) (hn:h.Ns C m) (J:m x=some c) (hv:VR W Z.nxt v c) :
  Loc P (compEnvC cs (jG env cs.names []) C env) W { Z with loc:=[(x,v)],tbl:=none } h:=by
 have hk:∀ y,(compEnvC cs (jG env cs.names []) C env).kindOf y=(cs.names.lookup y).map λ k=>if (k == NameKind.free && env.scope.kind == .function && env.kindOf y == some .cell) then NameKind.cell else k:=λ y=>kX env y cs.names
 refine ⟨O.kind,L.glob,L.bns,⟨m,hn,λ y u hy=>?_⟩,λ y k hy=>?_,λ k q h=>zN1 h⟩
 ·have B:i8 y [(x,v)]=some u:=hy
  by_cases hx:(y == x)=true
  ·have:y=x:=by simpa using hx
   subst this
   simp [i8] at B; subst B
   exact ⟨by rw [hk,O.loc]; rfl,c,J,hv⟩
  ·have D:(y == x)=false:=by simpa using hx
   simp [i8,D] at B
 ·obtain ⟨p,q⟩:=L.cel y k hy
  refine ⟨p,λ hc=>?_⟩
  have X:cs.names.lookup y=some .free:=by
   rw [hk] at hc
   cases T:cs.names.lookup y with
   | none=>rw [T] at hc; simp at hc
   | some k =>
    have U:=O.nocell _ (qS T)
    rw [T] at hc
    simp only [mR,dF] at hc
    by_cases D:(k == NameKind.free && env.scope.kind == .function && env.kindOf y == some .cell)=true
    ·have:k=.free:=by simp only [d8,j8] at D; exact D.1.1
     rw [this]
    ·rw [d0 D] at hc
     rcases hc with hc | hc
     ·exact f8 hc U
     ·rw [hc]
  have J:=qS X
  have ha:=q (S.cel y (O.free y J))
  exact xC ha _ _ (.inl J) (.inl rfl)
theorem hO {v:V} {all:List V} {f:V->St->Rs (Option V)} {l:List V} {Z:St} {r:List V} {Z':St} (h:turns v all f l Z=.ok r Z'):zV Z.toHp v=some all:=by
 by_cases q:zV Z.toHp v=some all
 ·exact q
 ·cases l with
  | nil=>rw [qBx,d0 q] at h; cases h
  | cons=>rw [qBy,d0 q] at h; cases h
theorem qRm {v:V} {all:List V} {f:V->St->Rs (Option V)} {Z:St} {r:List V} {Z':St} (h:turns v all f [] Z=.ok r Z'):r=[]/\Z'=Z:=by
 have q:=hO h; rw [qBx,c7 q] at h; cases h; exact ⟨rfl,rfl⟩
theorem qMc {v:V} {all:List V} {f:V->St->Rs (Option V)} {x:V} {l:List V} {Z:St} {r:List V} {Z':St} (h:turns v all f (x::l) Z=.ok r Z') :
  ∃ o a0 vs,f x Z=.ok o a0/\turns v all f l a0=.ok vs Z'/\r=o.toList++vs:=by
 have q:=hO h
 rw [qBy,c7 q] at h
 cases B:f x Z with
 | ok o a0 =>
  rw [B] at h
  dsimp only at h
  cases u:turns v all f l a0 with
  | ok vs a7=>rw [u] at h; cases h; exact ⟨o,a0,vs,rfl,u,rfl⟩
  | bad=>rw [u] at h; cases h
 | bad=>rw [B] at h; cases h
theorem qJo {v:V} {all:List V} {f:V->St->Rs (Option V)}:∀ {l:List V} {Z:St},turns v all f l Z≠.bad->∃ r Z',turns v all f l Z=.ok r Z'
 | [],Z,h=>by
  rw [qBx] at h ⊢
  by_cases q:zV Z.toHp v=some all
  ·exact ⟨[],Z,c7 q⟩
  ·exact f8 (d0 q) h
 | x::l,Z,h=>by
  rw [qBy] at h ⊢
  by_cases q:zV Z.toHp v=some all
  ·rw [c7 q] at h ⊢
   cases u:f x Z with
   | ok o a0 =>
    rw [u] at h
    dsimp only at h ⊢
    have hn:turns v all f l a0≠.bad:=by intro q; rw [q] at h; exact f8 rfl h
    obtain ⟨r,Z',e⟩:=qJo hn
    exact ⟨_,Z',by rw [e]; rfl⟩
   | bad=>rw [u] at h; exact f8 rfl h
  ·exact f8 (d0 q) h
theorem qWe {cond:X} {cs:Scope} {ifs:List Expr} {u:Env} {frC:Ln} (B:Snd P cx cond cs (.ofCond ifs)) (F:Fm P cx.lvl frC A u) (S:ScOk cs u) {b:V} {Z Z':St} {W:Wd} {s:d6} (I:Inv P frC W Z.toHp s) (L:Loc P u W Z s.heap) (e:ev cx cond Z=.ok b Z') {bb:Bool} (O:xP Z'.toHp b=some bb)
  {Q:Bool->d6->Prop} {E:Pv} (D:∀ W' s',Step P frC u W Z s W' Z' s'->Q bb s') :
  wpAny P.M A (forIn ifs true λ c r=>if r=true then do let ok ← isTrue c u (eval c u); pure (fF ok) else pure (fF r)) Q E s:=by
 match ifs,B with
 | [],B =>
  obtain ⟨_,q⟩:=B frC A u F S
  rw [q] at e; cases e
  cases O
  exact d9 (D W s (Step.refl I L))
 | [c],B =>
  have J:=(B frC A u F S).2
  have e2:tr (ev cx cond) Z=.ok bb Z':=by rw [yD e,zG O]
  rw [lQ]
  refine d3 ?_
  simp only [pO]
  refine d3 (j0 (J W Z s I L (by rw [e2]; intro q; cases q)) (λ T s' ⟨Z'',W',e3,st⟩=>?_) (λ x s' h=>h.elim))
  rw [e2] at e3; cases e3
  exact d9 (d9 (D W' s' st))
 | _::_::_,B=>exact f8 (B frC A u F S).1 (by simp)
theorem qAg {E:Pv} {D:Nat} {u:Array g9} {n:Nat} {x:g9} {Q:Pv} (B:s.heap.get? D=some (listOf u n))
  (L:∀ h' J,h'.get? D=some (listOf (u.push x) J)->gC D s.heap h'->Q .none { s with heap:=h' }) (O:u.size<=g0) :
  wpAny P.M A (call (.builtin "list.append") [.ref D,x]) Q E s:=by
 have hL:s.heap.IsList D u:=⟨_,B,rfl,_,rfl⟩
 refine eT slot_list_append hL.typeIs entry_list_append ?_ (args_list_append _ _)
 show wpAny _ _ (updateSeq D (·.push x) >>= λ q=>ret .none) _ _ s
 refine d3 (wpAny_updateSeq B rfl (d9 ⟨.none,rfl,L _ _ (iI _ B rfl) (gJ ..)⟩))
def qEf (cx:Cx) (elt:X) (x:Str) (cond:X) (cel:List (Str×Nat)) (v:V) (Z:St):Rs (Option V) :=
 (ev cx cond { Z with loc:=[(x,v)],cel:=cel,tbl:=none }).bind λ b aG=>qBc b aG (ev cx elt)
theorem zBn {elt:X} {x:Str} {cond:X} {cel:List (Str×Nat)} {v:V} {Z:St} {o:Option V} {Z':St} (h:qEf cx elt x cond cel v Z=.ok o Z') :
  ∃ b a0,ev cx cond { Z with loc:=[(x,v)],cel:=cel,tbl:=none }=.ok b a0/\((xP a0.toHp b=some true/\∃ r,ev cx elt a0=.ok r Z'/\o=some r)\/(xP a0.toHp b=some false/\o=none/\Z'=a0)):=by
 unfold qEf at h
 cases u:ev cx cond { Z with loc:=[(x,v)],cel:=cel,tbl:=none } with
 | ok b a0 =>
  rw [u] at h
  have h':qBc b a0 (ev cx elt)=.ok o Z':=h
  refine ⟨b,a0,rfl,?_⟩
  unfold qBc at h'
  cases q:xP a0.toHp b with
  | none=>rw [q] at h'; cases h'
  | some t=>cases t with
  | false=>rw [q] at h'; cases h'; exact .inr ⟨rfl,rfl,rfl⟩
  | true =>
   rw [q] at h'
   dsimp only at h'
   cases hr:ev cx elt a0 with
   | ok r a7=>rw [hr] at h'; cases h'; exact .inl ⟨rfl,r,rfl,rfl⟩
   | bad=>rw [hr] at h'; cases h'
 | bad=>rw [u] at h; cases h
structure CompInv (P:Par) (fr:Ln) (env:Env) (aB:Wd) (a0:St) (a8:d6) (vi:V) (I D C:Nat) (i:Nat) (acc:List V) (W:Wd) (Z:St) (s:d6):Prop where
 st:Step P fr env aB a0 a8 W { a0 with toHp:=Z.toHp } s
 oI:Out P fr W Z.nxt I
 oD:Out P fr W Z.nxt D
 oC:Out P fr W Z.nxt C
 it:ItAt W Z.nxt s.heap I vi i
 ac:∃ ys n,s.heap.get? D=some (listOf ys n)/\VRs W Z.nxt acc ys.toList
 ns:∃ m,s.heap.Ns C m
theorem CompInv.aside {O:Wd} {a0:St} {a8:d6} {u:V} {I D C j:Nat} {acc:List V} {W:Wd} {Z:St} {s:d6} (J:CompInv P fr env O a0 a8 u I D C j acc W Z s) (hL:env.locals∈fr) (Y:a8.heap.get? I=none) (T:I≠D) (B:I≠C) {h':mS} {t:Nat} {S:Nat}
  (hs:gC I s.heap h') (L:ItAt W Z.nxt h' I u S):CompInv P fr env O a0 a8 u I D C S acc W Z { s with heap:=h',toks:=t }:=by
 refine bC λ X=>?_
 obtain ⟨ys,nl,U,q2⟩:=J.ac
 obtain ⟨m,hm⟩:=J.ns
 refine X ?_
 exact ⟨J.st.aside hL Y J.oI (λ b o hb e=>(hs.2 b hb).trans e) rfl rfl,J.oI,J.oD,J.oC,L,⟨ys,nl,(hs.2 D (eO T)).trans U,q2⟩,m,hm.sameBut hs (eO B)⟩
theorem CompInv.names {B:Wd} {a0:St} {a8:d6} {L:V} {I D C j:Nat} {acc:List V} {W:Wd} {Z:St} {s:d6} (J:CompInv P fr env B a0 a8 L I D C j acc W Z s) (hL:env.locals∈fr) (nC:a8.heap.get? C=none) (O:D≠C) (u:I≠C) {h':mS} {t:Nat}
  (hs:gC C s.heap h') {m:Str->Option g9} (U:h'.Ns C m):CompInv P fr env B a0 a8 L I D C j acc W Z { s with heap:=h',toks:=t }:=by
 obtain ⟨X,nl,S,Y⟩:=J.ac
 exact ⟨J.st.aside hL nC J.oC (λ b o T e=>(hs.2 b T).trans e) rfl rfl,J.oI,J.oD,J.oC,J.it.mono (.refl ..) (d7 _) λ o e=>(hs.2 I u).trans e,⟨X,nl,(hs.2 D O).trans S,Y⟩,m,U⟩
theorem CompInv.inner {T:Wd} {a0:St} {a8:d6} {U:V} {I D C j:Nat} {acc:List V} {W:Wd} {Z:St} {s:d6} (J:CompInv P fr env T a0 a8 U I D C j acc W Z s) (hL:env.locals∈fr) (nC:a8.heap.get? C=none) (X:D≠C) (O:I≠C) {u:Env} (hc:u.locals=C)
  {l:List (Str×V)} {cl:List (Str×Nat)} {tb:Option (Nat×Str)} {W':Wd} {Z':St} {s':d6} (st:Step P (C::fr) u W { Z with loc:=l,cel:=cl,tbl:=tb } s W' Z' s'):CompInv P fr env T a0 a8 U I D C j acc W' Z' s':=by
 have Y:C≠env.locals:=λ q=>J.oC.notFr (q ▸ hL)
 refine bC λ n0=>?_
 obtain ⟨ys,nl,S,q2⟩:=J.ac
 obtain ⟨oI,eI⟩:=J.it.there
 obtain ⟨m,oN,es,ep,eN,_⟩:=J.ns
 refine n0 ?_
 have keep:∀ {a:Nat} {B:Obj},s.heap.get? a=some B->a≠C->Out P fr W Z.nxt a->s'.heap.get? a=some B:=λ {a B} e L x=>st.nx.ext a B e (λ q=>L (q.trans hc)) (λ hm=>(List.mem_cons.mp hm).elim L x.notFr) x.notOwn
 exact ⟨Step.inner (Z':={ a0 with toHp:=Z.toHp }) (a0:={ Z with loc:=l,cel:=cl,tbl:=tb }) J.st hL nC hc Y rfl st,J.oI.step eI st.nx,J.oD.step S st.nx,J.oC.step eN st.nx,J.it.mono st.nx.wle st.nx.le λ o e=>keep e O J.oI,
  ⟨ys,nl,keep S X J.oD,q2.mono st.nx.wle st.nx.le⟩,let ⟨m,a,_⟩:=st.loc.loc; ⟨m,hc ▸ a⟩⟩
theorem qUu (hh:A.handled=none) {elt cond:X} {x:Str} {sc cs:Scope} {e i:Expr} {ifs:List Expr} {yp p:Pos} (ie:Snd P cx elt cs (.e e)) (ic:Snd P cx cond cs (.ofCond ifs)) (F:Fm P cx.lvl fr A env) (S:ScOk sc env) (O:ScopeOk x sc cs)
  {aB:Wd} {a0:St} {a8:d6} {vi:V} {xs:List V} {I D C:Nat} (nI:a8.heap.get? I=none) (nD:a8.heap.get? D=none) (nC:a8.heap.get? C=none) (a5:I≠D) (U:I≠C) (a1:D≠C)
  {total:List V} {σf:St} (ay:total.length<=g0) {R:Result->d6->Prop}
  (hR:∀ W s,Step P fr env aB a0 a8 W { a0 with toHp:=σf.toHp } s->Out P fr W σf.nxt D->Out P fr W σf.nxt C->(∃ ys n,s.heap.get? D=some (listOf ys n)/\VRs W σf.nxt total ys.toList)->(∃ m,s.heap.Ns C m)->R (.ok .next) s)
  {W:Wd} {Z:St} {s:d6} {acc rest:List V} {j:Nat} (hj:j<=xs.length) (J:CompInv P fr env aB a0 a8 vi I D C j acc W Z s) (B:turns vi xs (qEf cx elt x cond a0.cel) (xs.drop j) Z=.ok rest σf) (u:acc++rest=total) :
  codeAny P.M A (.compLoop (.ListComp e [⟨.Name x yp,i,ifs,0⟩] cs p) 0 (.ref I) (.ref D) (compEnvC cs (jG env cs.names []) C env)) R s:=by
 have SC:=qSq S O C
 have FC:Fm P cx.lvl (C::fr) A (compEnvC cs (jG env cs.names []) C env):=⟨.head _,F.handled,F.units,F.depth,let ⟨l,a,b⟩:=F.frames; ⟨l,a,λ e he=>let ⟨p,L,q,r⟩:=b e he; ⟨p,L,q,.tail _ r⟩⟩⟩
 refine codeAny_compLoop_tests (λ n s=>∃ W Z acc rest j,n=xs.length+1 - j/\j<=xs.length/\CompInv P fr env aB a0 a8 vi I D C j acc W Z s/\turns vi xs (qEf cx elt x cond a0.cel) (xs.drop j) Z=.ok rest σf/\acc++rest=total) ?_ _ ⟨W,Z,acc,rest,j,rfl,hj,J,B,u⟩
 clear J B u hj W Z s acc rest j
 intro n s h0
 refine bC λ Y=>?_
 obtain ⟨W,Z,acc,rest,j,rfl,hj,J,B,u⟩:=h0
 have a6:=hO B
 cases hx:xs[j]? with
 | none =>
  rw [nK (List.getElem?_eq_none_iff.mp hx)] at B
  obtain ⟨rfl,rfl⟩:=qRm B
  refine Y ?_
  refine qKv hh (Z:=σf) J.st.inv J.it a6 hx λ h' hk=>?_
  obtain ⟨ys,nl,q1,q2⟩:=J.ac
  obtain ⟨m,oN,es,ep,q3,q4⟩:=J.ns
  refine hR W _ (J.st.aside F.hL nI J.oI (λ b o hb e=>hk b o hb e) rfl rfl) J.oD J.oC ⟨ys,nl,hk _ _ (eO a5) q1,?_⟩ ⟨m,oN,es,ep,hk _ _ (eO U) q3,q4⟩
  rw [← u,cN]; exact q2
 | some v =>
  obtain ⟨a2,hv⟩:=List.getElem?_eq_some_iff.mp hx
  rw [gE a2,hv] at B
  obtain ⟨o,a7,vs,hf,af,rfl⟩:=qMc B
  obtain ⟨b,aG,hb,a3⟩:=zBn hf
  refine Y ?_
  have ae:xs.length+1 - (j+1) < xs.length+1 - j:=Nat.sub_lt_sub_left (k9 a2) (n5 j)
  refine qGi (Z:=Z) J.st.inv J.it a6 hx λ c aD bB as aq b8=>?_
  have bJ:=J.aside (t:=bB) F.hL nI a5 U b8 aq
  clear J
  obtain ⟨m,hm⟩:=bJ.ns
  refine t8 (fL (env:=compEnvC cs (jG env cs.names []) C env) (SC.loc x O.loc) hm (λ aX bY bK=>?_) (by show (cs.kind == .class || (cs.kind == .module && C != env.globals))=false; rw [O.kind]; rfl))
  have bL:aX.Ns C (λ y=>if y=x then some c else m y):=bY
  have b9:=bJ.names (t:=bB+1) F.hL nC a1 U bK bL
  clear bJ hm bY
  obtain ⟨oN,eN,dN⟩:∃ o,aX.get? C=some o/\∀ vs,o.data≠.fields vs:=let ⟨o,_,_,e,d,_⟩:=bL; ⟨o,e,λ vs q=>by rw [d] at q; cases q⟩
  refine qWe (frC:=C::fr) ic FC SC (Z:={ Z with loc:=[(x,v)],cel:=a0.cel,tbl:=none }) (Inv.under (Z:=Z) b9.st.inv b9.oC eN dN) (qYw (Z:={ a0 with toHp:=Z.toHp }) S O b9.st.loc bL (by simp) as) hb (bb:=o.isSome) ?_ λ aM aK aC=>?_
  ·rcases a3 with ⟨q,r,_,rfl⟩ | ⟨q,rfl,_⟩
   ·exact q
   ·exact q
  have bM:=b9.inner F.hL nC a1 U rfl aC
  clear b9
  refine bC λ Y=>?_
  rcases a3 with ⟨q,r,hr,rfl⟩ | ⟨q,rfl,rfl⟩
  ·refine Y ?_
   rw [c7 (show (some r).isSome=true from rfl)]
   refine j0 ((ie (C::fr) A _ FC SC).1 aM aG aK aC.inv aC.loc (by rw [hr]; intro q; cases q)) (λ cr aV ⟨v',Z',aW,bD,aN,cD⟩=>?_) (λ ee s' h=>h.elim)
   refine bC λ Y=>?_
   rw [hr] at bD; cases bD
   have T:=bM.inner (l:=aG.loc) (cl:=aG.cel) (tb:=aG.tbl) F.hL nC a1 U rfl aN
   clear bM
   obtain ⟨ys,nl,q1,q2⟩:=T.ac
   obtain ⟨cF,cG⟩:=T.ns
   have ah:ys.size<=g0:=by
    rw [← h9,q2.length]
    refine d5 ?_ ay
    rw [← u,g7]; exact n4 _ _
   refine Y ?_
   refine qAg q1 (λ cT cU q5 bN=>?_) ah
   refine ⟨xs.length+1 - (j+1),ae,aW,a7,acc++[r],vs,j+1,rfl,a2,⟨T.st.aside F.hL nD T.oD (λ b o hb e=>(bN.2 b hb).trans e) rfl rfl,T.oI,T.oD,T.oC,T.it.mono (.refl ..) (d7 _) λ o e=>(bN.2 I a5).trans e,⟨_,_,q5,?_⟩,⟨cF,cG.sameBut bN (eO a1)⟩⟩,af,by rw [u6]; exact u⟩
   rw [mE]; exact q2.append (.cons cD .nil)
  ·refine Y ?_
   rw [d0 (show ¬ (none:Option V).isSome=true from gR)]
   exact ⟨xs.length+1 - (j+1),ae,aM,_,acc,vs,j+1,rfl,a2,bM,af,u⟩
structure Raw (P:Par) (fr:Ln) (env:Env) (W:Wd) (Z:St) (s:d6) (xs:List V) (Z':St) (a:Nat) (W':Wd) (s':d6):Prop where
 st:Step P fr env W Z s W' Z' s'
 new:s.heap.get? a=none
 out:Out P fr W' Z'.nxt a
 at_:∃ ys n,s'.heap.get? a=some (listOf ys n)/\VRs W' Z'.nxt xs ys.toList
 sz:xs.length<=g0
theorem Raw.frozen {xs:List V} {Z':St} {a:Nat} {W':Wd} {s':d6} (R:Raw P fr env W Z s xs Z' a W' s'):Post P fr env W Z s (.ok (.list xs) Z') (.ref a) s':=by
 obtain ⟨u,n,O,J⟩:=R.at_
 have D:=R.st.freezeLate R.new O R.out
 have B:u.size<=g0:=by
  have:=J.length
  rw [h9] at this
  have:=R.sz
  lia
 have L:Wle Z'.nxt W' (W'.freeze a (listOf u n)):=⟨λ q q=>rfl,λ b c e=>by
  show (if b=a then _ else _)=_
  rw [d0]; exact e
  rintro rfl; rw [R.out.notFz] at e; cases e⟩
 refine ⟨_,_,_,rfl,D,.list (o:=listOf u n) (items:=u) (e:=n) ?_ rfl rfl B (J.mono L (d7 _)) rfl⟩
 show (if a=a then _ else _)=_
 rw [c7 rfl]
structure CompEnd (P:Par) (fr:Ln) (env:Env) (W:Wd) (Z:St) (s:d6) (xs:List V) (Z':St) (a C:Nat) (W':Wd) (s':d6):Prop where
 raw:Raw P fr env W Z s xs Z' a W' s'
 newC:s.heap.get? C=none
 outC:Out P fr W' Z'.nxt C
 ne:a≠C
 ns:∃ m,s'.heap.Ns C m
theorem CompEnd.go {xs:List V} {Z':St} {a C:Nat} {W':Wd} {s':d6} (R:CompEnd P fr env W Z s xs Z' a C W' s') (F:Fm P cx.lvl fr A env) {h':mS} (hs:gC C s'.heap h'):Raw P fr env W Z s xs Z' a W' { s' with heap:=h' }:=by
 obtain ⟨D,n,B,J⟩:=R.raw.at_
 exact ⟨R.raw.st.aside F.hL R.newC R.outC (λ b o u e=>(hs.2 b u).trans e) rfl rfl,R.raw.new,R.raw.out,⟨D,n,(hs.2 _ R.ne).trans B,J⟩,R.raw.sz⟩
theorem qGq {elt it cond:X} {x:Str} {Z:St} (u:ev cx (.comp elt x it cond) Z≠.bad):cx.calm=false:=by
 cases h:cx.calm with
 | false=>rfl
 | true=>exact f8 (c7 h) u
theorem qRa {elt it cond:X} {x:Str} {Z:St} (h:cx.calm=false):ev cx (.comp elt x it cond) Z=(ev cx it Z).bind λ u a0=>match zV a0.toHp u with
  | some xs=>(turns u xs (qEf cx elt x cond a0.cel) xs a0).bind λ vs a7=>fits vs.length (.ok (.list vs) { a0 with toHp:=a7.toHp })
  | Option.none=>.bad:=d0 (by rw [h]; decide)
theorem qAq (CC:CxOk P cx) {elt it cond:X} {x:Str} {sc cs:Scope} {e i:Expr} {ifs:List Expr} {yp p:Pos} (ie:Snd P cx elt cs (.e e)) (ii:Snd P cx it sc (.e i)) (ic:Snd P cx cond cs (.ofCond ifs)) (F:Fm P cx.lvl fr A env) (S:ScOk sc env) (O:ScopeOk x sc cs)
  (h1:kY i=false) (I:Inv P fr W Z.toHp s) (L:Loc P env W Z s.heap) (u:ev cx (.comp elt x it cond) Z≠.bad)
  {a3:Option (g9->Sem Unit)} {Q:Pv} {E:Pv} (hE:∀ e s',NoE e s'->E e s')
  (B:∀ xs Z' a C W' s',ev cx (.comp elt x it cond) Z=.ok (.list xs) Z'->CompEnd P fr env W Z s xs Z' a C W' s'->compPost P.M A E a3 Q (.ref a) C (.ok .next) s') {ai:Pos} :
  wpAny P.M A (comprehension (.ListComp e [⟨.Name x yp,i,ifs,0⟩] cs p) cs env ai (newList []) false (eval i env) a3) Q E s:=by
 have Ji:=ii fr A env F S
 have a6:closureFor cs env=pure (jG env cs.names []):=qEg λ n hn=>S.has n (S.cel n (O.free n hn))
 have ad:cx.calm=false:=qGq u
 have hh:A.handled=none:=F.handled.plain (CC.cal ad)
 have av:ev cx (.comp elt x it cond) Z=(ev cx it Z).bind λ T a0=>match zV a0.toHp T with
  | some xs=>(turns T xs (qEf cx elt x cond a0.cel) xs a0).bind λ vs a7=>fits vs.length (.ok (.list vs) { a0 with toHp:=a7.toHp })
  | Option.none=>.bad:=qRa ad
 rw [av] at u B
 refine wpAny_comprehension_free rfl (qPv h1) a6 O.kind O.locs (zU Ji.1 I L u hE λ T ci aB a0 a8 aF D al=>?_)
 rw [Rs.bind_ok aF] at u B
 cases a2:zV a0.toHp T with
 | none=>rw [a2] at u; exact f8 rfl u
 | some xs =>
  rw [a2] at u B
  dsimp only at u B
  obtain ⟨vs,σf,ht⟩:=qJo (Rs.bind_ne u)
  rw [Rs.bind_ok ht] at u B
  obtain ⟨hz,ah⟩:=uT u
  rw [ah] at B
  refine qDt D.inv al a2 λ ob ac=>?_
  refine v2 (wpAny_newFunctionEnv O.nocell (by intro y hy; simp at hy) (λ Y bF V=>?_) O.kind)
  dsimp only at bF V ⊢
  generalize af:a8.heap.push ob=H1 at bF V ac ⊢
  have z1:H1.objs.size=a8.heap.objs.size+1:=by rw [← af,iC]
  generalize U:H1.push { cls:=.type "list", dict:=none,data:=.seq ([]:Lv).toArray }=H2 at bF V ⊢
  have z2:H2.objs.size=a8.heap.objs.size+2:=by rw [← U,iC,z1]
  have nI:a8.heap.get? a8.heap.objs.size=none:=kH _
  have nD:a8.heap.get? H1.objs.size=none:=dB (by rw [z1]; exact dY _)
  have nC:a8.heap.get? H2.objs.size=none:=dB (by rw [z2]; exact n4 _ _)
  have up:∀ {a:Nat},a8.heap.get? a=none->s.heap.get? a=none:=λ {a} h=>by
   cases q:s.heap.get? a with
   | none=>rfl
   | some o=>obtain ⟨o',e'⟩:=D.nx.live _ _ q; rw [h] at e'; cases e'
  have ak:a8.heap.objs.size≠H1.objs.size:=by rw [z1]; exact r9 (n5 _)
  have ae:a8.heap.objs.size≠H2.objs.size:=by rw [z2]; simp
  have a4:H1.objs.size≠H2.objs.size:=by rw [z1,z2]; exact n_b4
  have old:∀ b o,a8.heap.get? b=some o->Y.get? b=some o:=λ b o e=>by
   have hb:b≠H2.objs.size:=by rintro rfl; rw [nC] at e; cases e
   exact V.extBut b o hb (j9 _ (U ▸ j9 _ (af ▸ j9 _ e)))
  have eD:Y.get? H1.objs.size=some (listOf #[] 0):=V.extBut _ _ a4 (j9 _ (U ▸ r4 _ rfl))
  have eI:∀ o,H1.get? a8.heap.objs.size=some o->Y.get? a8.heap.objs.size=some o:=λ o e=>V.extBut _ _ ae (j9 _ (U ▸ j9 _ e))
  have aA:Step P fr env aB a0 a8 aB a0 { a8 with heap:=Y }:=Step.grow D.inv D.loc old rfl rfl
  have aZ:ItAt aB a0.nxt Y a8.heap.objs.size T 0:=ac.mono (.refl ..) (d7 _) eI
  have J:CompInv P fr env aB a0 a8 T a8.heap.objs.size H1.objs.size H2.objs.size 0 [] aB a0 { a8 with heap:=Y } :=
   ⟨aA,Out.new D.inv nI,Out.new D.inv nD,Out.new D.inv nC,aZ,⟨#[],0,eD,.nil⟩,⟨_,bF⟩⟩
  have loop:=qUu hh (e:=e) (i:=i) (yp:=yp) (p:=p) ie ic F S O nI nD nC ak ae a4 (total:=vs) (σf:=σf) hz (acc:=[]) (rest:=vs) (j:=0)
   (R:=compPost P.M A E a3 Q (.ref H1.objs.size) H2.objs.size) ?_ (m9 _) J (by simpa using ht) rfl
  ·exact codeAny_compStart_list loop (qOd (v:=T) (n:=a0.nxt) (W:=aB) (i:=0) aZ loop)
  ·intro W' s' au oD oC ao hm
   exact B vs _ H1.objs.size H2.objs.size W' s' rfl ⟨⟨D.trans au,up nD,oD,ao,hz⟩,up nC,oC,a4,hm⟩
theorem qWx (CC:CxOk P cx) {sc cs:Scope} {elt it cond:X} {x:Str} {e i:Expr} {ifs:List Expr} {yp p:Pos} (J:Snd P cx it sc (.e i)) (U:Snd P cx elt cs (.e e)) (D:Snd P cx cond cs (.ofCond ifs)) (h4:kQ x sc cs=true) (T:kY i=false) :
  Snd P cx (.comp elt x it cond) sc (.e (.ListComp e [⟨.Name x yp,i,ifs,0⟩] cs p)):=by
 intro fr A env F S
 have u:OkE P fr A env (eval (.ListComp e [⟨.Name x yp,i,ifs,0⟩] cs p) env) (ev cx (.comp elt x it cond)):=λ W Z s I L B=>by
  rw [eval_ListComp]
  refine qAq CC U J D F S (qPo h4) T I L B (λ q q h=>h) λ xs Z' a C W' s' e R=>?_
  obtain ⟨m,O⟩:=R.ns
  exact ⟨m,O,λ h' hs=>by rw [e]; exact (R.go F hs).frozen⟩
 exact ⟨u,qO u λ q=>rfl⟩
theorem qSa {sc:Scope} {x:Str} {e:X} {v:Expr} {q p:Pos} (hx:sc.names.lookup x=some .local) (ie:Snd P cx e sc (.e v)):Snd P cx (.named x e) sc (.e (.NamedExpr (.Name x q) v p)):=by
 intro fr A env F S
 have hk:=S.loc x hx
 have D:OkE P fr A env (eval (.NamedExpr (.Name x q) v p) env) (ev cx (.named x e)):=λ W Z s I L B=>by
  have O:ev cx (.named x e) Z=(ev cx e Z).bind λ v a0=>.ok v (a0.set x v):=rfl
  rw [O] at B ⊢
  show wpAny P.M A (do let v ← eval v env; holding [v] (assign (.Name x q) env v); pure v) _ _ s
  refine d3 (zU (ie fr A env F S).1 I L B (λ e s' h=>h) λ v c U a0 a8 Y u hv=>?_)
  rw [Rs.bind_ok Y]
  obtain ⟨m,hn,_⟩:=u.loc.loc
  refine d3 (l8 (t8 (fL hk hn (λ h' T J=>?_) (by rw [u.loc.kind]; rfl))))
  have V:=Step.set (s':={ a8 with heap:=h',toks:=a8.toks+1 }) u.inv u.loc F.hL hv hk hn T J rfl rfl
  exact d9 ⟨v,a0.set x v,U,rfl,u.trans V,hv⟩
 exact ⟨D,qO D λ z=>rfl⟩
end
set_option tactic.hygienic true in
theorem qPg {pos B:Pos} {c cv:g9} (l:Lv) (h:TriplesOk l) (e:codeAmong B (l++[rawInt pos.line,rawInt pos.col,c])=some cv):codeAmong B l=some cv\/cv=c:=by
 fun_induction TriplesOk l with
 | case1 =>
  simp only [nE,rawInt,codeAmong] at e
  split at e
  ·cases e; exact .inr rfl
  ·exact zN1 e
 | case2 O t L u x rest D =>
  simp only [iV,codeAmong] at e ⊢
  split at e
  ·rename_i h'; rw [c7 h']; exact .inl e
  ·rename_i h'; rw [d0 h']; exact D h e
 | case3 l J h2=>exact h.elim
structure LamScope (ps:List Str) (sc ls:Scope):Prop where
 shape:wB ps ls=true
 dis:distinct ps=true
 free:∀ n,(n,NameKind.free)∈ls.names->sc.names.lookup n=some .cell\/sc.names.lookup n=some .free
theorem qKs {ps:List Str} {sc ls:Scope} (h:uL ps sc ls=true):LamScope ps sc ls:=by
 unfold uL at h
 rw [d8] at h
 refine ⟨h.1,?_,λ n hn=>?_⟩
 ·have:=h.1; unfold wB at this; simp only [d8] at this; exact this.1.1.2
 ·have:=List.all_eq_true.mp h.2 _ hn; simpa using this
section
variable {P:Par} {fr:Ln} {A:n6} {env:Env} {W:Wd} {Z:St} {s:d6} {cx:Cx} {W':Wd} {Z':St} {s':d6}
theorem Inv.out (I:Inv P fr W Z.toHp s) {a:Nat} (hn:s.heap.get? a=none):Out P fr W Z.nxt a where
 notB:=by
  cases D:P.B.get? a with
  | none=>rfl
  | some o=>have:=I.keep _ _ D; rw [hn] at this; cases this
 notFr:=λ L=>by obtain ⟨J,u,_⟩:=(I.frB _ L).2; rw [hn] at u; cases u
 notFz:=by
  cases D:W.fz a with
  | none=>rfl
  | some o=>have:=(I.frz _ _ D).1; rw [hn] at this; cases this
 notOwn:=λ k hk q=>by obtain ⟨J,u⟩:=I.live k hk; rw [q,hn] at u; cases u
theorem qXw {k:Nat} {o:O} (h:Z.obj k=some o):Z.put k o=Z:=by
 have e:(λ j=>if j=k then some o else Z.obj j)=Z.obj:=funext λ j=>by
  by_cases hj:j=k
  ·subst hj; rw [c7 rfl,h]
  ·rw [d0 hj]
 show { Z with obj:=λ j=>if j=k then some o else Z.obj j }=Z
 rw [e]
theorem Step.putFz (I:Inv P fr W Z.toHp s) (L:Loc P env W Z s.heap) {k:Nat} (hk:k < Z.nxt) (hL:env.locals∈fr) (o:O) {c:Obj} {a:Nat} {B:Obj} (hr:OR (W.freeze a B) Z.nxt o c) {s':d6} (T:s.heap.get? a=none) (hs:∀ b o,b≠W.ρ k->s.heap.get? b=some o->s'.heap.get? b=some o) (hc:s'.heap.get? (W.ρ k)=some c) (ha:s'.heap.get? a=some B) (hg:s'.gens=s.gens) (V:s'.os=s.os) :
  Step P fr env W Z s (W.freeze a B) (Z.put k o) s':=by
 have X:=I.out T
 have S:∀ b,(W.freeze a B).fz b=if b=a then some B else W.fz b:=λ z=>rfl
 have U:∀ b c,W.fz b=some c->(W.freeze a B).fz b=some c:=λ b c h=>by
  rw [S,d0]; exact h
  rintro rfl; rw [X.notFz] at h; cases h
 have J:Wle Z.nxt W (W.freeze a B):=⟨λ z z=>rfl,U⟩
 have lv:∀ a o,s.heap.get? a=some o->∃ u,s'.heap.get? a=some u:=λ a o e=>by
  by_cases ha:a=W.ρ k
  ·subst ha; exact ⟨_,hc⟩
  ·exact ⟨o,hs a o ha e⟩
 refine ⟨⟨J,d7 _,lv,λ z a b=>f8 b (Nat.not_lt.mpr a),λ b c' e=>?_,λ a u e z z h=>hs a u (eO (h k hk)) e,λ a u Y z e=>⟨u,hs a u (λ q=>I.nofr k hk (q ▸ Y)) e,rfl⟩⟩,⟨λ b u e=>?_,I.old,λ j h=>let ⟨o,e⟩:=I.live j h; lv _ _ e,I.nofr,λ j h=>?_,I.inj,λ j u h=>?_,λ b c' h=>?_,λ a h=>⟨(I.frB a h).1,let ⟨o,e,d⟩:=(I.frB a h).2; ⟨o,hs a o (λ q=>I.nofr k hk (q ▸ h)) e,d⟩⟩,hg.trans I.gens,V.trans I.os,λ e o h=>J.fz _ _ (I.exc e o h),I.tab0⟩,?_⟩
 ·rw [S] at e
  by_cases D:b=a
  ·subst D; exact .inr T
  ·rw [d0 D] at e; exact .inl e
 ·refine hs b u ?_ (I.keep b u e)
  rintro rfl; rw [I.old k hk] at e; cases e
 ·show (W.freeze a B).fz (W.ρ j)=none
  rw [S,d0 (X.notOwn j h)]; exact I.nofz j h
 ·have h':(if j=k then some o else Z.obj j)=some u:=h
  by_cases hj:j=k
  ·subst hj; rw [c7 rfl] at h'; cases h'; exact ⟨hk,c,hc,hr⟩
  ·rw [d0 hj] at h'
   obtain ⟨a,c',b,d⟩:=I.obj j u h'
   exact ⟨a,c',hs _ _ (λ q=>hj (I.inj j k a hk q)) b,d.mono J (d7 _)⟩
 ·rw [S] at h
  by_cases D:b=a
  ·subst D; rw [c7 rfl] at h; cases h; exact ⟨ha,X.notFr⟩
  ·replace h:=(d0 D).symm.trans h
   refine ⟨hs b c' ?_ (I.frz b c' h).1,(I.frz b c' h).2⟩
   rintro rfl; rw [I.nofz k hk] at h; cases h
 ·obtain ⟨m,q,b⟩:=L.loc
  exact ⟨L.kind,L.glob,L.bns,⟨m,q.extBut (λ b o D e=>hs b o D e) λ q=>I.nofr k hk (q ▸ hL),λ x v h=>let ⟨p,c,q,r⟩:=b x v h; ⟨p,c,q,r.mono J (d7 _)⟩⟩,L.cel,L.cod⟩
theorem zHp {Z:St} {v:V} (h:qOa Z v≠.bad):∃ k q,Z.tbl=some (k,q)/\Z.obj k=some (.tab q)/\qOa Z v=.ok v Z:=by
 unfold qOa at h ⊢
 revert h
 cases Z.tbl with
 | none=>exact λ h=>f8 rfl h
 | some p =>
  dsimp only
  cases u:Z.obj p.1 with
  | none=>exact λ h=>f8 rfl h
  | some o=>cases o with
   | tab B =>
    by_cases e:B=p.2
    ·subst e; exact λ z=>⟨p.1,p.2,rfl,u,c7 rfl⟩
    ·exact λ h=>f8 (d0 e) h
   | _=>exact λ h=>f8 rfl h
set_option tactic.hygienic true in
theorem zDo (C:CxOk P cx) {sc ls:Scope} {ps:List Str} {b:X} {a:Arguments} {body:Expr} {p:Pos} (ha:One a ps) (hb:Ok b ls (.e body)) (hs:uL ps sc ls=true):Snd P cx (.lam ps b) sc (.e (.Lambda a body ls p)):=by
 have O:=qKs hs
 intro fr A env F S
 have ai:OkE P fr A env (eval (.Lambda a body ls p) env) (ev cx (.lam ps b)):=λ W Z s I L ag=>by
  have b5:ev cx (.lam ps b) Z=qOa Z (.clo ps b Z.cel):=rfl
  rw [b5] at ag ⊢
  refine bC λ u=>?_
  obtain ⟨k,q',au,a4,as⟩:=zHp ag
  refine u ?_
  rw [as]
  refine bC λ u=>?_
  obtain ⟨hk,hq,c,hc,hd⟩:=L.cod k q' au
  obtain ⟨_,oc,a3,b9⟩:=I.obj k _ a4
  refine u ?_
  cases b9 with
  | tab hT =>
  rename_i pl
  refine bC λ u=>?_
  obtain ⟨mg,bm,ob,a5,b1,al,V,ap,aa,J⟩:=C.lam
  refine u ?_
  have ad:=uM I a5
  have a7:=I.old k hk
  have ax:r8≠W.ρ k:=λ q=>by
   refine bC λ u=>?_
   obtain ⟨o,es,ep,e,_⟩:=a5
   refine u ?_
   rw [q,a7] at e; cases e
  have b3:bm≠W.ρ k:=λ q=>by rw [q,a7] at V; cases V
  have b6:bm≠r8:=λ q=>by
   refine bC λ u=>?_
   obtain ⟨o,es,ep,e,ar,_⟩:=a5
   refine u ?_
   rw [q,e] at V; cases V; rw [ar] at J; cases J
  have hB:s.heap.BuiltinsAt mg (W.ρ k):=⟨bm,ob,b1,al,b6,b3,I.keep _ _ V,ap,aa,J⟩
  have ah:=qEg (env:=env) (scope:=ls) λ n hn=>S.has n (S.cel n (O.free n hn))
  have Y:∀ y j,Z.cel.lookup y=some j->j < Z.nxt/\(ls.names.lookup y=some .free->(jG env ls.names []).lookup y=some (W.ρ j)):=λ y j hj=>by
   refine bC λ u=>?_
   obtain ⟨h1,h2⟩:=L.cel y j hj
   refine u ?_
   refine ⟨h1,λ T=>?_⟩
   have hm:=qS T
   exact xC (h2 (S.cel y (O.free y hm))) _ _ (.inl hm) (.inl rfl)
  have ac:∀ y,ls.names.lookup y=some .free->∃ a',(jG env ls.names []).lookup y=some a':=λ y T=>by
   have hm:=qS T
   refine bC λ u=>?_
   obtain ⟨a',av⟩:=S.has y (S.cel y (O.free y hm))
   refine u ?_
   exact ⟨a',xC av _ _ (.inl hm) (.inl rfl)⟩
  refine kla_eval (ha.dflt env) ?_
  have af:∀ (aB:Wd) (a8:d6) (cv B:g9) (D:Tok),Step P fr env W Z s aB Z a8->CodeFz aB cv q' ->
    Post P fr env W Z s (.ok (.clo ps b Z.cel) Z) (.ref a8.heap.objs.size) { a8 with heap:=a8.heap.push { cls:=.type "function", data:=.func (kla_fn "<lambda>" (env.qual++"<lambda>") a body ls (jG env ls.names []) ((mg "__name__").getD .none) cv B) },toks:=D }:=by
   intro aB a8 cv B D U b8
   have aA:=Step.freeze (s':={ a8 with heap:=a8.heap.push { cls:=.type "function", data:=.func (kla_fn "<lambda>" (env.qual++"<lambda>") a body ls (jG env ls.names []) ((mg "__name__").getD .none) cv B) },toks:=D }) U.inv U.loc { cls:=.type "function", data:=.func (kla_fn "<lambda>" (env.qual++"<lambda>") a body ls (jG env ls.names []) ((mg "__name__").getD .none) cv B) } rfl rfl rfl rfl
   have st:=U.trans aA
   refine ⟨_,_,_,rfl,st,.clo (by show (if _=_ then _ else _)=_; rw [c7 rfl]) rfl ?_⟩
   refine ⟨⟨body,rfl,hb⟩,O.shape,?_,rfl,rfl,λ cargs hl=>ha.bind (kla_fn "<lambda>" (env.qual++"<lambda>") a body ls (jG env ls.names []) ((mg "__name__").getD .none) cv B) rfl rfl cargs hl,ac,λ y j hj=>⟨(Y y j hj).1,λ T=>?_⟩⟩
   ·show CodeFz _ cv (env.qual++fB "<lambda>")
    exact (show CodeFz aB cv (env.qual++fB "<lambda>") from hq.symm ▸ b8).mono aA.nx.wle
   ·rw [st.nx.wle.ρ j (Y y j hj).1]; exact (Y y j hj).2 T
  cases T:codeAmong p pl.toList with
  | some cv =>
   refine kla_makeFunctionHit (mg:=mg) ah L.glob ad hc (hd.keeps I.keep) a3 hT.1 T hB λ B h' D b4 z=>?_
   have U:Step P fr env W Z s W Z { s with heap:=h',toks:=D }:=Step.grow I L b4 rfl rfl
   exact af W _ cv B D U (hT.2 p cv T)
  | none =>
   refine kla_makeFunction (mg:=mg) ah L.glob ad hc (hd.keeps I.keep) a3 hT.1 T ax hB λ c' B h' D hx aw bn aj an=>?_
   refine bC λ u=>?_
   obtain ⟨cV,oc,vs,t,e2,az,ay,hv⟩:=aj
   refine u ?_
   cases e2
   have a1:s.heap.get? c'=none:=dB aw
   have ae:CodeFz (W.freeze c' oc) (.ref c') q':=⟨c',oc,vs,t,rfl,by show (if _=_ then _ else _)=_; rw [c7 rfl],ay,hq ▸ hv⟩
   have U:Step P fr env W Z s (W.freeze c' oc) (Z.put k (.tab q')) { s with heap:=h',toks:=D } :=
    Step.putFz I L hk F.hL (.tab q') (.tab ⟨by rw [gN]; exact TriplesOk_snoc _ _ _ _ hT.1,λ pos cv e=>by
     rw [gN] at e
     rcases qPg _ hT.1 e with e | e
     ·refine bC λ u=>?_
      obtain ⟨bZ,aU,cH,bB,x1,x2,x3,x4⟩:=hT.2 pos cv e
      refine u ?_
      refine ⟨bZ,aU,cH,bB,x1,?_,x3,x4⟩
      show (if bZ=c' then _ else _)=_
      rw [d0]; exact x2
      rintro rfl; rw [(I.out a1).notFz] at x2; cases x2
     ·rw [e]; exact ae⟩) a1 (λ b o hb e=>hx b o hb e) an az rfl rfl
   rw [qXw a4] at U
   exact af _ _ (.ref c') B D U ae
 exact ⟨ai,qO ai λ z=>rfl⟩
theorem Step.addLate (st:Step P fr env W Z s W' Z' s') {a:Nat} {o:O} {c:Obj} (hn:s.heap.get? a=none) (e:s'.heap.get? a=some c) (x:Out P fr W' Z'.nxt a) (hr:OR (W'.add Z'.nxt a) (Z'.nxt+1) o c) :
  Step P fr env W Z s (W'.add Z'.nxt a) (Z'.add o) s':=by
 have D:=W'.add_le Z'.nxt a
 have J:=st.inv
 have u:(W'.add Z'.nxt a).ρ Z'.nxt=a:=by show (if Z'.nxt=Z'.nxt then _ else _)=_; rw [c7 rfl]
 have B:∀ k,k < Z'.nxt+1->k=Z'.nxt\/(k < Z'.nxt/\(W'.add Z'.nxt a).ρ k=W'.ρ k):=λ k h=>by
  rcases Nat.lt_succ_iff_lt_or_eq.mp h with h | h
  ·exact .inr ⟨h,D.ρ k h⟩
  ·exact .inl h
 refine ⟨⟨st.nx.wle.trans st.nx.le D,j6 st.nx.le,st.nx.live,λ k U h2=>?_,st.nx.fzn,st.nx.ext,st.nx.fext⟩,
  ⟨J.keep,λ k h=>?_,λ k h=>?_,λ k h=>?_,λ k h=>?_,λ i j hi hj h=>?_,λ k S h=>?_,J.frz,J.frB,J.gens,J.os,J.exc,k9 J.tab0.1,(D.ρ 0 J.tab0.1).trans J.tab0.2⟩,?_⟩
 ·rcases B k h2 with rfl | ⟨q,r⟩
  ·rw [u]; exact hn
  ·rw [r]; exact st.nx.new k U q
 ·rcases B k h with rfl | ⟨q,r⟩
  ·rw [u]; exact x.notB
  ·rw [r]; exact J.old k q
 ·rcases B k h with rfl | ⟨q,r⟩
  ·rw [u]; exact ⟨_,e⟩
  ·rw [r]; exact J.live k q
 ·rcases B k h with rfl | ⟨q,r⟩
  ·rw [u]; exact x.notFr
  ·rw [r]; exact J.nofr k q
 ·rcases B k h with rfl | ⟨q,r⟩
  ·rw [u]; exact x.notFz
  ·rw [r]; exact J.nofz k q
 ·rcases B i hi with rfl | ⟨q,r⟩ <;> rcases B j hj with rfl | ⟨q',r'⟩
  ·rfl
  ·rw [u,r'] at h; exact f8 h.symm (x.notOwn j q')
  ·rw [u,r] at h; exact f8 h (x.notOwn i q)
  ·rw [r,r'] at h; exact J.inj i j q q' h
 ·have h':(if k=Z'.nxt then some o else Z'.obj k)=some S:=h
  by_cases L:k=Z'.nxt
  ·subst L
   rw [c7 rfl] at h'; cases h'
   exact ⟨n5 _,c,by rw [u]; exact e,hr⟩
  ·rw [d0 L] at h'
   obtain ⟨T,c',b,d⟩:=J.obj k S h'
   exact ⟨k9 T,c',by rw [D.ρ k T]; exact b,d.mono D (dY _)⟩
 ·have J':=st.loc
  exact ⟨J'.kind,J'.glob,J'.bns,let ⟨m,a,b⟩:=J'.loc; ⟨m,a,λ x v h=>let ⟨p,c,q,r⟩:=b x v h; ⟨p,c,q,r.mono D (dY _)⟩⟩,
   λ x k h=>let ⟨p,q⟩:=J'.cel x k h; ⟨k9 p,λ hk=>by rw [D.ρ k p]; exact q hk⟩,
   λ k q h=>let ⟨p,r⟩:=J'.cod k q h; ⟨k9 p,by rw [D.ρ k p]; exact r⟩⟩
set_option genCtorIdx true in
inductive Keep where
 | froze
 | owned
noncomputable def Keep.val (k:Keep) (xs:List V) (Z:St):V:=match k with | .froze=>.list xs | .owned=>.ref Z.nxt
noncomputable def Keep.st (k:Keep) (xs:List V) (Z:St):St:=match k with | .froze=>Z | .owned=>Z.add (.list xs)
theorem Raw.keep (k:Keep) {xs:List V} {a:Nat} (R:Raw P fr env W Z s xs Z' a W' s'):∃ W'',Step P fr env W Z s W'' (k.st xs Z') s'/\VR W'' (k.st xs Z').nxt (k.val xs Z') (.ref a)/\∀ b,b≠a->Out P fr W' Z'.nxt b->Out P fr W'' (k.st xs Z').nxt b:=by
 obtain ⟨D,n,S,O⟩:=R.at_
 have u:D.size<=g0:=by
  have:=O.length
  rw [h9] at this
  have:=R.sz
  lia
 cases k with
 | froze =>
  have B:Wle Z'.nxt W' (W'.freeze a (listOf D n)):=⟨λ z z=>rfl,λ b c e=>by
   show (if b=a then _ else _)=_
   rw [d0]; exact e
   rintro rfl; rw [R.out.notFz] at e; cases e⟩
  refine ⟨_,R.st.freezeLate R.new S R.out,.list (o:=listOf D n) (items:=D) (e:=n) ?_ rfl rfl u (O.mono B (d7 _)) rfl,λ b L o=>⟨o.notB,o.notFr,?_,o.notOwn⟩⟩
  ·show (if a=a then _ else _)=_
   rw [c7 rfl]
  ·show (if b=a then _ else _)=_
   rw [d0 L]; exact o.notFz
 | owned =>
  have B:=W'.add_le Z'.nxt a
  have J:(W'.add Z'.nxt a).ρ Z'.nxt=a:=by show (if Z'.nxt=Z'.nxt then _ else _)=_; rw [c7 rfl]
  refine ⟨_,R.st.addLate R.new S R.out (.list (O.mono B (dY _)) u),?_,λ b L o=>⟨o.notB,o.notFr,o.notFz,λ k hk q=>?_⟩⟩
  ·have T:VR (W'.add Z'.nxt a) (Z'.nxt+1) (.ref Z'.nxt) (.ref ((W'.add Z'.nxt a).ρ Z'.nxt)):=.ref (n5 _)
   rw [J] at T; exact T
  ·rcases Nat.lt_succ_iff_lt_or_eq.mp hk with h | h
   ·rw [B.ρ k h] at q; exact o.notOwn k h q
   ·subst h; rw [J] at q; exact L q.symm
theorem qWs {sc:Scope} {es:X} {l:List Expr} {p:Pos} (ie:Snd P cx es sc (.es l)):Snd P cx (.newl es) sc (.e (.List l p)):=by
 intro fr A env F S
 have Je:=(ie fr A env F S) p
 have B:OkE P fr A env (eval (.List l p) env) (ev cx (.newl es)):=λ W Z s I L u=>by
  refine List_ (vV (k:=λ xs a0=>fits xs.length (.ok (.ref a0.nxt) (a0.add (.list xs)))) Je.2.2 I L u (λ e s' h=>h) λ xs cs W' Z' s' e st hv=>?_)
  have T:ev cx (.newl es) Z=fits xs.length (.ok (.ref Z'.nxt) (Z'.add (.list xs))):=e
  rw [T] at u ⊢
  obtain ⟨U,r⟩:=uT u
  rw [r]
  have D:cs.length<=g0:=by rw [hv.length]; exact U
  have J:s'.heap.get? s'.heap.objs.size=none:=kH _
  have V:Step P fr env W' Z' s' W' Z' { s' with heap:=s'.heap.push { cls:=.type "list", data:=.seq cs.toArray } }:=Step.push st.inv st.loc _ rfl rfl rfl
  have R:Raw P fr env W Z s xs Z' s'.heap.objs.size W' { s' with heap:=s'.heap.push { cls:=.type "list", data:=.seq cs.toArray } }:=⟨st.trans V,(by
   cases q:s.heap.get? s'.heap.objs.size with
   | none=>rfl
   | some o=>obtain ⟨o',O⟩:=st.nx.live _ _ q; rw [J] at O; cases O),Out.new st.inv J,⟨cs.toArray,0,r4 _ rfl,by simpa using hv⟩,U⟩
  obtain ⟨aE,Y,aR,_⟩:=R.keep .owned
  exact v2 ⟨_,_,aE,rfl,Y,aR⟩ (by show cs.toArray.size<=g0; rw [n7]; exact D)
 exact ⟨B,qO B λ z=>rfl⟩
end
section
variable {P:Par} {cx:Cx}
theorem sound (C:CxOk P cx) {x:X} {sc:Scope} {u:Ph} (h:Ok x sc u):Snd P cx x sc u:=by
 induction h with
 | none=>exact qWr
 | none'=>exact qRz
 | bool=>exact qWz
 | tt=>exact zKu
 | int=>exact zDq
 | str h=>exact zDi h
 | var h=>exact zDg h
 | cv h=>exact zKw h
 | glob h=>exact qWv C h
 | bin _ _ a b=>exact zDt a b
 | neg _ a=>exact zDn a
 | not _ a=>exact zDl a
 | cmp _ _ h a b=>exact zDs a b h
 | and _ _ a b=>exact zDu a b
 | and' _ _ a b=>exact qXb a b
 | or _ _ a b=>exact zKv a b
 | or' _ _ a b=>exact zDk a b
 | ite _ _ _ a b c=>exact zDp a b c
 | idx _ _ h a b=>exact zDr a b h
 | slc _ _ _ a b c=>exact zDj a b c
 | attr _ h a=>exact qXa C a h
 | list _ a=>exact qWu a
 | tup _ a=>exact zDh a
 | nil=>exact zDm
 | cons _ _ h a b=>exact qWw a b h
 | call _ _ a b=>exact qWy C a b
 | meth _ _ h h' a b=>exact qWt C a b h h'
 | comp _ _ _ h h' a b c=>exact qWx C a b c h h'
 | lam h B hs=>exact zDo C h B hs
 | named h _ a=>exact qSa h a
 | newl _ a=>exact qWs a
end
set_option genCtorIdx true in
inductive Fl where
 | next
 | brk
 | cont
 | ret (v:V)
noncomputable def qZi:Option O->Bool
 | some (.cell _)=>true
 | _=>false
def St.setC (Z:St) (x:Str) (v:V):Option St:=(Z.cel.lookup x).bind λ k=>if qZi (Z.obj k)=true then some { Z with obj:=λ j=>if j=k then some (.cell (some v)) else Z.obj j } else none
theorem qDa {Z Z':St} {x:Str} {v:V} (h:Z.setC x v=some Z'):∃ k o,Z.cel.lookup x=some k/\Z.obj k=some (.cell o)/\Z'={ Z with obj:=λ j=>if j=k then some (.cell (some v)) else Z.obj j }:=by
 obtain ⟨k,B,h2⟩:=Option.bind_eq_some_iff.mp h
 cases u:Z.obj k with
 | none=>rw [u] at h2; cases h2
 | some o=>cases o with
  | cell o=>rw [u] at h2; cases h2; exact ⟨k,o,B,u,rfl⟩
  | _=>rw [u] at h2; cases h2
noncomputable def setF (x:Str) (v:V):List (Str×V)->List (Str×V)
 | []=>[(x,v)]
 | (y,u)::r=>if x == y then (y,v)::r else (y,u)::setF x v r
theorem qHk {x y:Str} {v u:V} {r:List (Str×V)}:setF x v ((y,u)::r)=if x == y then (y,v)::r else (y,u)::setF x v r:=rfl
set_option tactic.hygienic true in
noncomputable def qAs (k:St->Rs Fl):Fl->St->Rs Fl
 | .next,Z=>k Z
 | .cont,Z=>k Z
 | .brk,Z=>.ok .next Z
 | .ret v,Z=>.ok (.ret v) Z
def vL (c:St->Rs Bool) (b o:St->Rs Fl):Nat->St->Rs Fl
 | 0,_=>.bad
 | n+1,Z=>(c Z).bind λ t Z=>if t=true then (b Z).bind (qAs (vL c b o n)) else o Z
open Classical in
set_option tactic.hygienic true in
def vD (v:V) (all:List V) (b:V->St->Rs Fl):List V->St->Rs Fl
 | [],Z=>if zV Z.toHp v=some all then .ok .next Z else .bad
 | y::r,Z=>if zV Z.toHp v=some all then (b y Z).bind (qAs (vD v all b r)) else .bad
section
variable {v:V} {all:List V} {b:V->St->Rs Fl} {Z:St}
set_option tactic.hygienic true in
theorem qLj (h:zV Z.toHp v=some all):vD v all b [] Z=.ok .next Z:=c7 h
theorem qQw {y:V} {r:List V} (h:zV Z.toHp v=some all):vD v all b (y::r) Z=(b y Z).bind (qAs (vD v all b r)):=c7 h
theorem qLi {l:List V} (h:vD v all b l Z≠.bad):zV Z.toHp v=some all:=by
 refine gF λ q=>h ?_
 cases l <;> exact d0 q
end
def condS (v:V) (Z:St) (t e:St->Rs Fl):Rs Fl:=match xP Z.toHp v with
 | some true=>t Z
 | some false=>e Z
 | none=>.bad
structure TabOk (K:Frag) (C d:Addr) (f:Nat->Nat):Prop where
 obj:∃ o es ep,K.lookup d=some o/\o.cls=.ref C/\o.data=.dict es ep/\IntKeys es/\∀ c:Nat,c < 128->∃ t,findBy mJ es (c:Int)=some (.int (f c:Nat) t)
 get:findIn K (.ref C) "__getitem__" = some (some (.builtin "dict.__getitem__"))
 seq:subIn K (.ref C) (.type "collections.deque")=some false
 sub:subIn K (.ref C) (.type "dict")=some true
 low:∀ c,c < 128->f c < 128
noncomputable def kJ (f:Nat->Nat) (x:Str):Str:=⟨(x.cps.toList.map f).toArray⟩
noncomputable def qDf (v a b:Str):Bool:=decide (v.length+(v.length+1) * b.length<=16777216) && decide ((u2 v a b).length<=g0) && t5 (u2 v a b)
def qDe:List (Str×Str)->Str->Option Str
 | [],v=>some v
 | (a,b)::r,v=>if qDf v a b=true then qDe r (u2 v a b) else none
def qRo (f:Nat->Nat) (v:Str):Bool:=v.cps.toList.all (λ c=>decide (c < 128)) && t5 (kJ f v)
def qMt (f:Nat->Nat) (ps:List (Str×Str)) (v:Str):Option Str:=if qRo f v=true then qDe ps (kJ f v) else none
structure Sx extends Cx where
 tr:V->Option (Nat->Nat)
 setA:V->Str->V->Hp->Option Hp
noncomputable def qNq (v:V) (Z:St) (k:V->St->Rs Fl):Rs Fl:=match v with
 | .list xs=>k (.ref Z.nxt) (Z.add (.list xs))
 | _=>.bad
set_option tactic.hygienic true in
noncomputable def kD:Option St->Rs Fl
 | some Z=>.ok .next Z
 | none=>.bad
noncomputable def zNr (f:Fl) (Z:St) (k:St->Rs Fl):Rs Fl:=match f with
 | .next=>k Z
 | f=>.ok f Z
noncomputable def qHu:V->Option (List V)
 | .tup xs=>some xs
 | _=>none
def jS (v:V) (k:V->V->Rs Fl):Rs Fl:=match qHu v with
 | some [a,b]=>k a b
 | _=>.bad
def qFl (u v:V):Ov:=match u with
 | .int a=>(qU v).elim .bad λ b=>.ok (.int (a+b))
 | .str a=>(qQ v).elim .bad λ b=>if a.length+b.length<=g0 then .ok (.str (a++b)) else .bad
 | _=>.bad
set_option tactic.hygienic true in
def ex:S->Sx->St->Rs Fl
 | .brk,_,Z=>.ok .brk Z
 | .expr e,cx,Z=>(ev cx.toCx e Z).bind λ q a0=>.ok .next a0
 | .asg x e,cx,Z=>(ev cx.toCx e Z).bind λ v a0=>.ok .next (a0.set x v)
 | .own x e,cx,Z=>(ev cx.toCx e Z).bind λ v a0=>qNq v a0 λ r a7=>.ok .next (a7.set x r)
 | .asgC x e,cx,Z=>(ev cx.toCx e Z).bind λ v a0=>kD (a0.setC x v)
 | .setA o f e,cx,Z=>(ev cx.toCx e Z).bind λ v a0=>(ev cx.toCx o a0).bind λ vo a7=>kD ((cx.setA vo f v a7.toHp).map λ H=>{ a7 with toHp:=H })
 | .ret e,cx,Z=>(ev cx.toCx e Z).bind λ v a0=>.ok (.ret v) a0
 | .ite c a b,cx,Z=>(ev cx.toCx c Z).bind λ v a0=>condS v a0 (ex a cx) (ex b cx)
 | .loop n c b o,cx,Z=>vL (tr (ev cx.toCx c)) (ex b cx) (ex o cx) n Z
 | .each x it b,cx,Z=>if cx.calm=true then .bad else (ev cx.toCx it Z).bind λ v a0=>match zV a0.toHp v with
  | some xs=>vD v xs (λ u Z=>ex b cx (Z.set x u)) xs a0
  | none=>.bad
 | .assert e,cx,Z=>(ev cx.toCx e Z).bind λ v a0=>condS v a0 (λ a0=>.ok .next a0) (λ q=>.bad)
 | .nil,_,Z=>.ok .next Z
 | .seq a b,cx,Z=>(ex a cx Z).bind λ f a0=>zNr f a0 (ex b cx)
 | .asg2 x y e,cx,Z=>(ev cx.toCx e Z).bind λ v a0=>jS v λ a b=>.ok .next ((a0.set x a).set y b)
 | .cont,_,Z=>.ok .cont Z
 | .ret0,_,Z=>.ok (.ret .none) Z
 | .asgs x y e,cx,Z=>(ev cx.toCx e Z).bind λ v a0=>.ok .next ((a0.set x v).set y v)
 | .ownA o f x e,cx,Z=>(ev cx.toCx e Z).bind λ v a0=>qNq v a0 λ r a7=>(ev cx.toCx o a7).bind λ vo aG=>kD ((cx.setA vo f r aG.toHp).map λ H=>({ aG with toHp:=H }:St).set x r)
 | .aug x e,cx,Z=>(ev cx.toCx (.var x) Z).bind λ u B=>(ev cx.toCx e B).bind λ v a0=>((qFl u v).st a0).bind λ r a7=>.ok .next (a7.set x r)
 | .asg2C x y e,cx,Z=>(ev cx.toCx e Z).bind λ v a0=>jS v λ a b=>kD ((a0.setC x a).map λ a7=>a7.set y b)
 | .sq x tn ps b,cx,Z=>match Z.loc.lookup x with
  | some (.str v)=>(cx.gl tn).elim .bad λ vt=>(cx.tr vt).elim .bad λ f=>(qMt f ps v).elim .bad λ v'=>ex b cx (Z.set x (.str v'))
  | _=>.bad
structure FmS (P:Par) (lv:Nat) (fr:Ln) (A:n6) (env:Env):Prop extends Fm P lv fr A env where
 top:∃ outer,A.frames=some (env::outer)
 frame:env.frame=some env.locals
section
variable {P:Par} {fr:Ln} {A:n6} {env:Env} {W W':Wd} {Z Z':St} {s s':d6} {lv:Nat}
end
inductive FlR (W:Wd) (n:Nat):Fl->Flow->Prop
 | next:FlR W n .next .next
 | brk:FlR W n .brk .brk
 | cont:FlR W n .cont .cont
 | ret {v:V} {c:g9}:VR W n v c->FlR W n (.ret v) (.ret c)
structure SxOk (P:Par) (cx:Sx):Prop where
 tr:∀ v f,cx.tr v=some f->∃ d K C,v=.top (.ref d)/\TabOk K C d f/\K.In P.B
 base:CxOk P cx.toCx
 setA:∀ fr A env,Fm P cx.lvl fr A env->∀ W Z s,Inv P fr W Z.toHp s->Loc P env W Z s.heap->∀ o f v co c H,VR W Z.nxt o co->VR W Z.nxt v c->cx.setA o f v Z.toHp=some H ->
  ∀ (E:Pv) (Q:Unit->d6->Prop),(∀ W' s',Step P fr env W Z s W' { Z with toHp:=H } s'->Q () s')->wpAny P.M A (setAttr co f c) Q E s
section
variable (P:Par) (fr:Ln) (env:Env) (W:Wd) (Z:St) (s:d6)
inductive PostF (r:Rs Fl) (f:Flow) (s':d6):Prop where
 | mk (v:Fl) (Z':St) (W':Wd) (h1:r=.ok v Z') (h2:Step P fr env W Z s W' Z' s') (h3:FlR W' Z'.nxt v f)
end
def OkS (P:Par) (fr:Ln) (A:n6) (env:Env) (t:Sem Flow) (f:St->Rs Fl):Prop :=
 ∀ W Z s,Inv P fr W Z.toHp s->Loc P env W Z s.heap->f Z≠.bad->wpAny P.M A t (PostF P fr env W Z s (f Z)) NoE s
def zOp (P:Par) (cx:Sx) (st:S) (fr:Ln) (A:n6) (env:Env):Pt->Prop
 | .s x=>OkS P fr A env (exec x env) (ex st cx)
 | .l x=>OkS P fr A env (execs x env) (ex st cx)
def xH (P:Par) (st:S) (sc:Scope) (u:Pt):Prop:=∀ cx:Sx,SxOk P cx->∀ fr A env,FmS P cx.lvl fr A env->ScOk sc env->zOp P cx st fr A env u
section
variable {P:Par} {fr:Ln} {A:n6} {env:Env} {W W':Wd} {Z Z':St} {s s':d6} {cx:Sx}
theorem PostF.after {r:Rs Fl} {c:Flow} {s'':d6} (a:Step P fr env W Z s W' Z' s') (b:PostF P fr env W' Z' s' r c s''):PostF P fr env W Z s r c s'' :=
 let ⟨v,Z'',W'',e,st,h⟩:=b; ⟨v,Z'',W'',e,a.trans st,h⟩
theorem qXh {sc:Scope} {p:Pos}:xH P .brk sc (.s (.Break p)):=λ cx C fr A env F S W Z s I L q=>wpAny_Break ⟨_,Z,W,rfl,Step.refl I L,.brk⟩
theorem qSh {sc:Scope} {p:Pos}:xH P .cont sc (.s (.Continue p)):=λ cx C fr A env F S W Z s I L q=>wpAny_Continue ⟨_,Z,W,rfl,Step.refl I L,.cont⟩
theorem qSc {sc:Scope} {p:Pos}:xH P .ret0 sc (.s (.Return none p)):=λ cx C fr A env F S W Z s I L q=>wpAny_Return_none ⟨_,Z,W,rfl,Step.refl I L,.ret .none⟩
theorem qXd {sc:Scope} {e:X} {v:Expr} {p:Pos} (h:Ok e sc (.e v)):xH P (.ret e) sc (.s (.Return (some v) p)):=λ cx C fr A env F S W Z s I L u =>
 wpAny_Return_some (zU (k:=λ v a0=>Rs.ok (Fl.ret v) a0) (sound C.base h fr A env F.toFm S).1 I L u (λ e s' h=>h) λ v c W' Z' s' e st hv=>⟨_,Z',W',Rs.bind_ok e,st,.ret hv⟩)
theorem qXf {sc:Scope}:xH P .nil sc (.l []):=λ cx C fr A env F S W Z s I L q=>wpAny_execs_nil ⟨_,Z,W,rfl,Step.refl I L,.next⟩
theorem qXc {sc:Scope} {a b:S} {x:Stmt} {r:List Stmt} (U:xH P a sc (.s x)) (O:xH P b sc (.l r)):xH P (.seq a b) sc (.l (x::r)):=by
 intro cx C fr A env F S
 have Ja:=U cx C fr A env F S
 have Jb:=O cx C fr A env F S
 intro W Z s I L B
 have J:ex (.seq a b) cx Z=(ex a cx Z).bind λ f a0=>zNr f a0 (ex b cx):=rfl
 rw [J] at B ⊢
 refine mT (j0 (Ja W Z s I L (Rs.bind_ne B)) (λ f a8 ⟨v,a0,D,T,u,hv⟩=>?_) (λ e s' h=>h.elim))
 rw [Rs.bind_ok T] at B ⊢
 cases hv with
 | next=>exact j0 (Jb D a0 a8 u.inv u.loc B) (λ c s' h=>h.after u) λ e s' h=>h.after u
 | brk=>exact ⟨_,a0,D,rfl,u,.brk⟩
 | cont=>exact ⟨_,a0,D,rfl,u,.cont⟩
 | ret hv=>exact ⟨_,a0,D,rfl,u,.ret hv⟩
theorem kA {e:Expr} (h:xV e=false) (t:Option Expr) (l:Nat) (env:Env):swapsWith e t l env=pure false:=by
 cases e <;> first | rfl | exact zT1 h
theorem qBt (L:Loc P env W Z s.heap):interactive env=false:=by unfold interactive; rw [L.kind]; rfl
set_option tactic.hygienic true in
theorem qSf {sc:Scope} {e:X} {v:Expr} {p:Pos} (h:Ok e sc (.e v)) (h2:xV v=false):xH P (.expr e) sc (.s (.Expr v p)):=λ cx C fr A env F S W Z s I L u =>
 wpAny_Expr_any (zU (k:=λ q a0=>Rs.ok Fl.next a0) (sound C.base h fr A env F.toFm S).1 I L u (λ e s' h=>h) λ v c W' Z' s' e st hv=>⟨_,Z',W',Rs.bind_ok e,st,.next⟩) (qBt L) (kA h2 ..)
theorem zY {E:Pv} (F:FmS P cx.lvl fr A env) (I:Inv P fr W Z.toHp s) (L:Loc P env W Z s.heap) {x:Str} {v:V} {c:g9} (hx:env.kindOf x=some .local) (hv:VR W Z.nxt v c) {Q:Unit->d6->Prop}
  (D:∀ s',Step P fr env W Z s W (Z.set x v) s'->Q () s'):wpAny P.M A (storeName env x c) Q E s:=by
 obtain ⟨m,hn,_⟩:=L.loc
 exact fL hx hn (λ h' u B=>D _ (Step.set I L F.hL hv hx hn u B rfl rfl)) (by rw [L.kind]; rfl)
theorem qUx (I:Inv P fr W Z.toHp s) (L:Loc P env W Z s.heap) (hL:env.locals∈fr) {x:Str} {v:V} {c:g9} {Z':St} (e:Z.setC x v=some Z') (hv:VR W Z.nxt v c) :
  ∃ k,k < Z.nxt/\Z.cel.lookup x=some k/\((env.kindOf x=some .cell\/env.kindOf x=some .free)->env.cells.lookup x=some (W.ρ k))/\(∃ B,s.heap.IsCell (W.ρ k) B) /\
   ∀ s':d6,s'.heap.IsCell (W.ρ k) (some c)->gC (W.ρ k) s.heap s'.heap->s'.gens=s.gens->s'.os=s.os->Step P fr env W Z s W Z' s':=by
 refine bC λ D=>?_
 obtain ⟨k,X,hk,S,rfl⟩:=qDa e
 obtain ⟨p,q⟩:=L.cel x k hk
 obtain ⟨_,Y,hg,hr⟩:=I.obj k _ S
 refine D ?_
 have u:∃ B,s.heap.IsCell (W.ρ k) B:=by
  cases hr with
  | cell hd _=>exact ⟨_,_,hg,hd⟩
  | nocell hd=>exact ⟨_,_,hg,hd⟩
 refine ⟨k,p,hk,q,u,λ s' hc hs J O=>?_⟩
 refine bC λ D=>?_
 obtain ⟨o,e1,U⟩:=hc
 refine D ?_
 exact Step.put I L p hL (.cell (some v)) (.cell U hv) (λ b o T e=>(hs.2 b T).trans e) e1 J O
theorem qFv {E:Pv} (F:FmS P cx.lvl fr A env) (I:Inv P fr W Z.toHp s) (L:Loc P env W Z s.heap) {x:Str} {v:V} {c:g9} {Z':St} (e:Z.setC x v=some Z') (hx:env.kindOf x=some .cell) (hv:VR W Z.nxt v c) {Q:Unit->d6->Prop}
  (D:∀ s',Step P fr env W Z s W Z' s'->Q () s'):wpAny P.M A (storeName env x c) Q E s:=by
 obtain ⟨k,p,hk,q,⟨J,u⟩,B⟩:=qUx I L F.hL e hv
 exact wpAny_storeName_cell L.kind hx (q (.inl hx)) u λ h' hc hs=>D _ (B _ hc hs rfl rfl)
set_option genCtorIdx true in
inductive Tgt where
 | loc
 | cel
noncomputable def Tgt.put (t:Tgt) (Z:St) (x:Str) (v:V):Option St:=match t with | .loc=>some (Z.set x v) | .cel=>Z.setC x v
noncomputable def Tgt.kind:Tgt->s9
 | .loc=>.local
 | .cel=>.cell
theorem wK {E:Pv} (t:Tgt) (F:FmS P cx.lvl fr A env) (I:Inv P fr W Z.toHp s) (L:Loc P env W Z s.heap) {x:Str} {v:V} {c:g9} {Z':St} (e:t.put Z x v=some Z') (hx:env.kindOf x=some t.kind) (hv:VR W Z.nxt v c) {Q:Unit->d6->Prop}
  (u:∀ s',Step P fr env W Z s W Z' s'->Z'.nxt=Z.nxt->Q () s'):wpAny P.M A (storeName env x c) Q E s:=by
 cases t with
 | loc=>cases e; exact zY F I L hx hv λ s' st=>u s' st rfl
 | cel =>
  refine qFv F I L e hx hv λ s' st=>u s' st ?_
  obtain ⟨_,_,_,_,rfl⟩:=qDa e
  rfl
theorem qMj (L:Loc P env W Z s.heap) {x:Str} {p:Pos} {v:Expr} {l:Nat}:∃ b,swapsWith v (some (.Name x p)) l env=pure b:=by
 cases v <;> exact ⟨_,rfl⟩
set_option tactic.hygienic true in
theorem qBe (C:SxOk P cx) (F:FmS P cx.lvl fr A env) {sc cs:Scope} (S:ScOk sc env) (k:Keep) (t:Tgt) {elt it cond:X} {y:Str} {e i:Expr} {ifs:List Expr} {x:Str} {p pos zp lp:Pos} (hi:Ok it sc (.e i)) (h2:Ok elt cs (.e e)) (h3:Ok cond cs (.ofCond ifs)) (h4:kQ y sc cs=true) (h1:kY i=false) (hx:env.kindOf x=some t.kind)
  (I:Inv P fr W Z.toHp s) (L:Loc P env W Z s.heap) (r:Rs Fl) (hr:r=(ev cx.toCx (.comp elt y it cond) Z).bind λ u a0=>match u with | .list xs=>kD (t.put (k.st xs a0) x (k.val xs a0)) | _=>.bad) (Y:r≠.bad) :
  wpAny P.M A (exec (.Assign [.Name x p] (.ListComp e [⟨.Name y zp,i,ifs,0⟩] cs lp) pos) env) (PostF P fr env W Z s r) NoE s:=by
 have U:ev cx.toCx (.comp elt y it cond) Z≠.bad:=by rw [hr] at Y; exact Rs.bind_ne Y
 have hE:∀ e s',NoE e s'->NoE e s':=λ e s' h=>h
 have put:∀ {xs:List V} {a0:St},ev cx.toCx (.comp elt y it cond) Z=.ok (.list xs) a0->∃ a7,t.put (k.st xs a0) x (k.val xs a0)=some a7/\r=.ok .next a7:=λ {xs a0} e=>by
  rw [e] at hr
  have T:r=kD (t.put (k.st xs a0) x (k.val xs a0)):=hr
  cases hp:t.put (k.st xs a0) x (k.val xs a0) with
  | none=>rw [hp] at T; exact f8 T Y
  | some a7=>rw [hp] at T; exact ⟨a7,rfl,T⟩
 have O:=qPo h4
 refine bC λ B=>?_
 obtain ⟨b,hb⟩:=qMj (v:=.ListComp e [⟨.Name y zp,i,ifs,0⟩] cs lp) (x:=x) (p:=p) (l:=pos.line) L
 refine B ?_
 cases b with
 | false =>
  refine fN ?_ hb
  rw [eval_ListComp]
  refine qAq C.base (sound C.base h2) (sound C.base hi) (sound C.base h3) F.toFm S O h1 I L U hE λ xs a0 a D aB a8 aF R=>?_
  refine bC λ B=>?_
  obtain ⟨m,hm⟩:=R.ns
  refine B ?_
  refine ⟨m,hm,λ h' hs=>?_⟩
  refine bC λ B=>?_
  obtain ⟨a7,hp,bO⟩:=put aF
  obtain ⟨aE,J,aR,_⟩:=(R.go F.toFm hs).keep k
  refine B ?_
  refine wK t F J.inv J.loc hp hx aR λ aK aC z=>?_
  rw [bO]
  exact ⟨_,a7,aE,rfl,J.trans aC,.next⟩
 | true =>
  rw [exec_Assign_Name_used _ _ _ _ hb]
  refine d3 (eE (d3 ?_))
  show wpAny _ A (do let _ ← comprehension (.ListComp e [⟨.Name y zp,i,ifs,0⟩] cs lp) cs env _ (newList []) false (eval i env) (some (assign (.Name x p) env))) _ _ s
  refine d3 (qAq C.base (sound C.base h2) (sound C.base hi) (sound C.base h3) F.toFm S O h1 I L U hE λ xs a0 a D aB a8 aF R=>?_)
  refine bC λ B=>?_
  obtain ⟨a7,hp,bO⟩:=put aF
  obtain ⟨aE,J,aR,a4⟩:=R.raw.keep k
  obtain ⟨m,⟨oC,es,ep,eC,dC,rC⟩⟩:=R.ns
  refine B ?_
  have oD:=a4 D (eO R.ne) R.outC
  show wpAny _ A (assign (.Name x p) env (.ref a)) _ _ a8
  refine t8 (wK t F J.inv J.loc hp hx aR λ aK aC cW=>?_)
  have ab:D≠env.locals:=λ q=>R.outC.notFr (q ▸ F.hL)
  have cI:aK.heap.get? D=some oC:=aC.nx.ext D oC eC ab R.outC.notFr oD.notOwn
  refine ⟨m,⟨oC,es,ep,cI,dC,rC⟩,λ h' hs=>?_⟩
  have cJ:Out P fr aE a7.nxt D:=oD.step eC aC.nx
  have aN:Step P fr env W Z s aE a7 { aK with heap:=h' }:=(J.trans aC).aside F.hL R.newC cJ (λ b o hb e=>(hs.2 b hb).trans e) rfl rfl
  refine d9 (d9 ?_)
  rw [bO]
  exact ⟨_,a7,aE,rfl,aN,.next⟩
set_option tactic.hygienic true in
theorem qUv {c:Cx} {elt it cond:X} {y:Str} {Z:St} {v:V} {Z':St} (h:ev c (.comp elt y it cond) Z=.ok v Z'):∃ xs,v=.list xs:=by
 have B:=qRa (elt:=elt) (it:=it) (cond:=cond) (x:=y) (Z:=Z) (qGq (cx:=c) (elt:=elt) (it:=it) (cond:=cond) (x:=y) (Z:=Z) (by rw [h]; nofun))
 rw [B] at h
 ·cases u:ev c it Z with
  | ok D a0 =>
   rw [u,Rs.bind_ok rfl] at h
   split at h
   ·rename_i xs _
    cases h2:turns D xs (qEf c elt y cond a0.cel) xs a0 with
    | ok vs a7 =>
     rw [h2,Rs.bind_ok rfl] at h
     unfold fits at h
     split at h <;> cases h
     exact ⟨_,rfl⟩
    | bad=>rw [h2] at h; cases h
   ·cases h
  | bad=>rw [u] at h; cases h
theorem qGv (C:SxOk P cx) (F:FmS P cx.lvl fr A env) {sc:Scope} (S:ScOk sc env) (t:Tgt) {e:X} {v:Expr} {x:Str} {p pos:Pos} (h:Ok e sc (.e v)) (hc:xV v=false) (hx:env.kindOf x=some t.kind)
  (I:Inv P fr W Z.toHp s) (L:Loc P env W Z s.heap) (B:((ev cx.toCx e Z).bind λ u a0=>kD (t.put a0 x u))≠.bad) :
  wpAny P.M A (exec (.Assign [.Name x p] v pos) env) (PostF P fr env W Z s ((ev cx.toCx e Z).bind λ u a0=>kD (t.put a0 x u))) NoE s:=by
 refine fN (zU (sound C.base h fr A env F.toFm S).1 I L B (λ e s' h=>h) λ u c J a0 a8 T D hu=>?_) (kA hc ..)
 rw [Rs.bind_ok T] at B ⊢
 cases hp:t.put a0 x u with
 | none=>rw [hp] at B; exact f8 rfl B
 | some a7=>exact wK t F D.inv D.loc hp hx hu λ U O q=>⟨_,a7,J,rfl,D.trans O,.next⟩
theorem qXj {sc:Scope} {x:Str} {e:X} {v:Expr} {q p:Pos} (B:sc.names.lookup x=some .local) (h:Ok e sc (.e v)) (hc:xV v=false):xH P (.asg x e) sc (.s (.Assign [.Name x q] v p)) :=
 λ cx C fr A env F S W Z s I L u=>qGv C F S .loc h hc (S.loc x B) I L u
theorem qSk {sc:Scope} {x:Str} {e:X} {v:Expr} {q p:Pos} (B:sc.names.lookup x=some .cell) (h:Ok e sc (.e v)) (hc:xV v=false):xH P (.asgC x e) sc (.s (.Assign [.Name x q] v p)) :=
 λ cx C fr A env F S W Z s I L u=>qGv C F S .cel h hc (S.cell x B) I L u
theorem qBb (C:SxOk P cx) (F:FmS P cx.lvl fr A env) {sc:Scope} (S:ScOk sc env) {es:X} {l:List Expr} {p:Pos} (h:Ok es sc (.es l)) (I:Inv P fr W Z.toHp s) (L:Loc P env W Z s.heap) (u:ev cx.toCx (.list es) Z≠.bad) {Q:Pv} {E:Pv}
  (Y:∀ e s',NoE e s'->E e s') (B:∀ xs Z' a W' s',ev cx.toCx (.list es) Z=.ok (.list xs) Z'->Raw P fr env W Z s xs Z' a W' s'->Q (.ref a) s'):wpAny P.M A (eval (.List l p) env) Q E s:=by
 have Je:=(sound C.base h fr A env F.toFm S) p
 have T:ev cx.toCx (.list es) Z=(ev cx.toCx es Z).bind λ vs a0=>jH vs a0 λ xs a0=>fits xs.length (.ok (.list xs) a0):=rfl
 rw [T] at u B
 refine List_ (vV Je.2.2 I L u Y λ xs cs W' Z' s' e st hv=>?_)
 rw [e] at u B
 obtain ⟨U,r⟩:=uT u
 rw [r] at B
 have D:cs.length<=g0:=by rw [hv.length]; exact U
 have J:s'.heap.get? s'.heap.objs.size=none:=kH _
 have V:Step P fr env W' Z' s' W' Z' { s' with heap:=s'.heap.push { cls:=.type "list", data:=.seq cs.toArray } }:=Step.push st.inv st.loc _ rfl rfl rfl
 refine v2 (B xs Z' _ W' _ rfl ⟨st.trans V,?_,Out.new st.inv J,⟨cs.toArray,0,r4 _ rfl,by simpa using hv⟩,U⟩) (by show cs.toArray.size<=g0; rw [n7]; exact D)
 cases q:s.heap.get? s'.heap.objs.size with
 | none=>rfl
 | some o=>obtain ⟨o',O⟩:=st.nx.live _ _ q; rw [J] at O; cases O
theorem zLq (C:SxOk P cx) (F:FmS P cx.lvl fr A env) {sc:Scope} (S:ScOk sc env) (t:Tgt) {es:X} {l:List Expr} {x:Str} {p pos r:Pos} (h:Ok es sc (.es l)) (hx:env.kindOf x=some t.kind)
  (I:Inv P fr W Z.toHp s) (L:Loc P env W Z s.heap) (B:((ev cx.toCx (.list es) Z).bind λ u a0=>qNq u a0 λ r a7=>kD (t.put a7 x r))≠.bad) :
  wpAny P.M A (exec (.Assign [.Name x p] (.List l r) pos) env) (PostF P fr env W Z s ((ev cx.toCx (.list es) Z).bind λ u a0=>qNq u a0 λ r a7=>kD (t.put a7 x r))) NoE s:=by
 refine fN (qBb C F S h I L (Rs.bind_ne B) (λ e s' h=>h.elim) λ xs a0 a V a8 T R=>?_) (kA rfl ..)
 rw [Rs.bind_ok T] at B ⊢
 have hr:qNq (.list xs) a0 (λ r a7=>kD (t.put a7 x r))=kD (t.put (Keep.owned.st xs a0) x (Keep.owned.val xs a0)):=rfl
 rw [hr] at B ⊢
 obtain ⟨J,D,O,_⟩:=R.keep .owned
 cases hp:t.put (Keep.owned.st xs a0) x (Keep.owned.val xs a0) with
 | none=>rw [hp] at B; exact f8 rfl B
 | some a7=>exact wK t F D.inv D.loc hp hx O λ Y U q=>⟨_,a7,J,rfl,D.trans U,.next⟩
theorem qXe {sc:Scope} {x:Str} {es:X} {l:List Expr} {q p r:Pos} (B:sc.names.lookup x=some .local) (h:Ok es sc (.es l)):xH P (.own x (.list es)) sc (.s (.Assign [.Name x q] (.List l r) p)) :=
 λ cx C fr A env F S W Z s I L u=>zLq C F S .loc h (S.loc x B) I L u
section
variable {sc cs:Scope} {elt it cond:X} {y:Str} {e i:Expr} {ifs:List Expr} {x:Str} {p q zp lp:Pos} (hi:Ok it sc (.e i)) (h2:Ok elt cs (.e e)) (h3:Ok cond cs (.ofCond ifs)) (h4:kQ y sc cs=true) (h5:kY i=false)
include hi h2 h3 h4 h5
end
theorem qSb {sc:Scope} {o:X} {f:Str} {e:X} {t v:Expr} {p pos:Pos} (Y:Ok o sc (.e t)) (h2:Ok e sc (.e v)) (h3:xV v=false):xH P (.setA o f e) sc (.s (.Assign [.Attribute t f p] v pos)):=by
 intro cx C fr A env F S
 intro W Z s I L B
 have J:ex (.setA o f e) cx Z=(ev cx.toCx e Z).bind λ v a0=>(ev cx.toCx o a0).bind λ vo a7=>kD ((cx.setA vo f v a7.toHp).map λ H=>{ a7 with toHp:=H }):=rfl
 rw [J] at B ⊢
 refine plainObj_wpAny_Assign_Attribute (qMg (sound C.base h2 fr A env F.toFm S).1 (sound C.base Y fr A env F.toFm S).1 I L B (λ e s' h=>h) λ U a7 aH u w O T aL D hu hw=>?_) (kA h3 ..)
 rw [aL] at B ⊢
 cases hp:cx.setA w f u a7.toHp with
 | none=>rw [hp] at B; exact f8 rfl B
 | some Hn=>exact C.setA fr A env F.toFm U a7 aH D.inv D.loc w f u T O Hn hw hu hp _ _ λ V aK aC=>⟨_,_,V,rfl,D.trans aC,.next⟩
end
section
variable {P:Par} {fr:Ln} {A:n6} {env:Env} {W W':Wd} {Z Z':St} {s s':d6} {cx:Sx} {E:Pv}
theorem zBl {v:V} {Z:St} {t e:St->Rs Fl} (h:condS v Z t e≠.bad):(xP Z.toHp v=some true/\condS v Z t e=t Z)\/(xP Z.toHp v=some false/\condS v Z t e=e Z):=by
 unfold condS at h ⊢
 revert h
 cases xP Z.toHp v with
 | none=>exact λ h=>f8 rfl h
 | some t=>cases t with
  | true=>exact λ q=>.inl ⟨rfl,rfl⟩
  | false=>exact λ q=>.inr ⟨rfl,rfl⟩
theorem qQz {c:Cx} {e:X} {t f:St->Rs Fl} {Z:St} (h:((ev c e Z).bind λ v a0=>condS v a0 t f)≠.bad):tr (ev c e) Z≠.bad:=by
 cases u:ev c e Z with
 | ok v a0 =>
  rw [u] at h
  rw [yD u]
  rcases zBl (h:condS v a0 _ _≠.bad) with ⟨q,_⟩ | ⟨q,_⟩ <;> rw [zG q] <;> intro B <;> cases B
 | bad=>rw [u] at h; exact f8 rfl h
theorem qXg {sc:Scope} {c:X} {a b:S} {t:Expr} {x y:List Stmt} {pos:Pos} (T:Ok c sc (.e t)) (J:xH P a sc (.l x)) (O:xH P b sc (.l y)):xH P (.ite c a b) sc (.s (.If t x y pos)):=by
 intro cx C fr A env F S
 have Ja:=J cx C fr A env F S
 have Jb:=O cx C fr A env F S
 intro W Z s I L u
 have D:ex (.ite c a b) cx Z=(ev cx.toCx c Z).bind λ v a0=>condS v a0 (ex a cx) (ex b cx):=rfl
 rw [D] at u ⊢
 refine wpAny_If (qCu (sound C.base T fr A env F.toFm S).2 I L (qQz u) λ bb v Z' W' s' e B st=>?_)
 rw [Rs.bind_ok e] at u ⊢
 cases bb with
 | true =>
  rw [c7 rfl]
  have r:condS v Z' (ex a cx) (ex b cx)=ex a cx Z':=by unfold condS; rw [B]
  rw [r] at u ⊢
  exact j0 (Ja W' Z' s' st.inv st.loc u) (λ c s' h=>h.after st) λ e s' h=>h.after st
 | false =>
  rw [zX1]
  have r:condS v Z' (ex a cx) (ex b cx)=ex b cx Z':=by unfold condS; rw [B]
  rw [r] at u ⊢
  exact j0 (Jb W' Z' s' st.inv st.loc u) (λ c s' h=>h.after st) λ e s' h=>h.after st
set_option tactic.hygienic true in
theorem qKa {sc:Scope} {e:X} {t:Expr} {pos:Pos} (h:Ok e sc (.e t)):xH P (.assert e) sc (.s (.Assert t none pos)):=by
 intro cx C fr A env F S
 intro W Z s I L u
 have D:ex (.assert e) cx Z=(ev cx.toCx e Z).bind λ v a0=>condS v a0 (λ a0=>.ok .next a0) (λ q=>.bad):=rfl
 rw [D] at u ⊢
 have J:=(sound C.base h fr A env F.toFm S).2
 refine wpAny_Assert_holds (qCu J I L (qQz u) λ bb v Z' W' s' e B st=>?_)
 rw [Rs.bind_ok e] at u ⊢
 cases bb with
 | true=>exact ⟨rfl,_,Z',W',by unfold condS; rw [B],st,.next⟩
 | false =>
  have r:condS v Z' (λ a0=>Rs.ok Fl.next a0) (λ q=>.bad)=.bad:=by unfold condS; rw [B]
  exact f8 r u
theorem qVs {c:St->Rs Bool} {b o:St->Rs Fl} {test:Expr} {body D:List Stmt} (hc:OkB P fr A env (isTrue test env (eval test env)) c) (hb:OkS P fr A env (execs body env) b) (ho:OkS P fr A env (execs D env) o)
  (n:Nat) (I:Inv P fr W Z.toHp s) (L:Loc P env W Z s.heap) (B:vL c b o n Z≠.bad) {pos:Pos} :
  wpAny P.M A (exec (.While test body D pos) env) (PostF P fr env W Z s (vL c b o n Z)) NoE s:=by
 refine wpAny_While ?_
 generalize hr:vL c b o n Z=r at B
 refine codeAny_whileLoop (λ k s'=>∃ W' Z',Step P fr env W Z s W' Z' s'/\vL c b o k Z'=r) ?_ n ⟨W,Z,Step.refl I L,hr⟩
 rintro k a8 ⟨aB,a0,a9,u⟩
 cases k with
 | zero=>exact f8 (u.symm.trans rfl) B
 | succ k =>
  replace u:(c a0).bind (λ t Z=>if t=true then (b Z).bind (qAs (vL c b o k)) else o Z)=r:=u
  have U:c a0≠.bad:=by intro q; rw [q] at u; exact B u.symm
  refine j0 (hc aB a0 a8 a9.inv a9.loc U) (λ bb X ⟨a7,V,aL,Y⟩=>?_) (λ e s' h=>h.elim)
  rw [aL] at u
  have st:=a9.trans Y
  cases bb with
  | true =>
   rw [c7 rfl]
   replace u:(b a7).bind (qAs (vL c b o k))=r:=u
   have T:b a7≠.bad:=by intro q; rw [q] at u; exact B u.symm
   refine j0 (hb V a7 X st.inv st.loc T) (λ f aK ⟨fl,aG,J,aP,O,S⟩=>?_) (λ e s' h=>h.elim)
   rw [aP] at u
   cases S with
   | next=>exact ⟨k,n5 _,J,aG,st.trans O,u⟩
   | cont=>exact ⟨k,n5 _,J,aG,st.trans O,u⟩
   | brk=>exact ⟨_,aG,J,u.symm,st.trans O,.next⟩
   | ret hv=>exact ⟨_,aG,J,u.symm,st.trans O,.ret hv⟩
  | false =>
   rw [zX1]
   replace u:o a7=r:=u
   refine j0 (ho V a7 X st.inv st.loc (by rw [u]; exact B)) (λ f aK S=>?_) (λ e s' h=>h.elim)
   rw [← u]
   exact S.after st
theorem qSe {sc:Scope} {n:Nat} {c:X} {b o:S} {t:Expr} {x y:List Stmt} {pos:Pos} (J:Ok c sc (.e t)) (D:xH P b sc (.l x)) (B:xH P o sc (.l y)):xH P (.loop n c b o) sc (.s (.While t x y pos)) :=
 λ cx C fr A env F S W Z s I L u=>qVs (sound C.base J fr A env F.toFm S).2 (D cx C fr A env F S) (B cx C fr A env F S) n I L u
inductive EachAt (P:Par) (fr:Ln) (env:Env) (W:Wd) (Z:St) (s:d6) (v:V) (xs:List V) (Ia:Nat) (b:V->St->Rs Fl) (r:Rs Fl) (k:Nat) (s':d6):Prop where
 | mk (W':Wd) (Z':St) (j:Nat) (h1:k=xs.length+1 - j) (h2:j<=xs.length) (h3:Step P fr env W Z s W' Z' s') (h4:Out P fr W' Z'.nxt Ia) (h5:ItAt W' Z'.nxt s'.heap Ia v j) (h6:vD v xs b (xs.drop j) Z'=r)
theorem zIr {b:V->St->Rs Fl} {b':St->Rs Fl} {tg:Expr} {body:List Stmt} (hh:A.handled=none) (F:FmS P cx.lvl fr A env)
  (ha:∀ W Z s y c,Inv P fr W Z.toHp s->Loc P env W Z s.heap->VR W Z.nxt y c->b y Z≠.bad->∀ (Q:Unit->d6->Prop) (E:Pv),(∀ s' Z',Step P fr env W Z s W Z' s'->Z'.nxt=Z.nxt->b y Z=b' Z'->Q () s')->wpAny P.M A (assign tg env c) Q E s)
  (af:∀ (s:d6) (Z:St) (W:Wd) (n:Nat) (u v:V) (i Ia:Nat) (c:g9) (Q:Unit->d6->Prop) (E:Pv),ItAt W n s.heap Ia v i->b u Z≠.bad->VR W Z.nxt u c->Q () s->wpAny P.M A (letOwnedTupleGo tg (.ref Ia) c) Q E s)
  (X:OkS P fr A env (execs body env) b') {v:V} {cv:g9} {xs:List V} (hv:VR W Z.nxt v cv)
  (I:Inv P fr W Z.toHp s) (L:Loc P env W Z s.heap) (D:vD v xs b xs Z≠.bad) {E:Pv} :
  wpAny P.M A (pyIter cv) (λ it aH=>codeAny P.M A (.forLoop tg it body [] env) (λ r s'=>match r with | .ok f=>PostF P fr env W Z s (vD v xs b xs Z) f s' | .error e=>cameBackBy P.M A env E e s') aH) E s:=by
 have ad:=qLi D
 generalize hr:vD v xs b xs Z=r at D
 refine qDt I hv ad λ ob a4=>?_
 have nI:s.heap.get? s.heap.objs.size=none:=kH _
 have oI:Out P fr W Z.nxt s.heap.objs.size:=Out.new I nI
 have b7:Step P fr env W Z s W Z { s with heap:=s.heap.push ob }:=Step.push I L _ rfl rfl rfl
 generalize b0:s.heap.objs.size=Ia at a4 nI oI
 refine codeAny_forLoop_any (EachAt P fr env W Z s v xs Ia b r) ?_ (xs.length+1) ⟨W,Z,0,rfl,m9 _,b7,oI,a4,hr⟩
 rintro k a8 ⟨aB,a0,j,rfl,hj,a9,aU,c8,aD⟩
 have bH:zV a0.toHp v=some xs:=qLi (b:=b) (l:=xs.drop j) (by rw [aD]; exact D)
 cases B:xs[j]? with
 | none =>
  have hd:xs.drop j=[]:=nK (List.getElem?_eq_none_iff.mp B)
  rw [hd] at aD
  rw [qLj bH] at aD
  refine qKv hh a9.inv c8 bH B λ h' hk=>wpAny_execs_nil ?_
  refine ⟨_,a0,aB,aD.symm,a9.aside F.hL nI aU (λ b o X e=>hk b o X e) rfl rfl,.next⟩
 | some y =>
  have U:j < xs.length:=(List.getElem?_eq_some_iff.mp B).1
  have hd:xs.drop j=y::xs.drop (j+1):=by
   rw [gE U,(List.getElem?_eq_some_iff.mp B).2]
  rw [hd] at aD
  rw [qQw bH] at aD
  refine qGi a9.inv c8 bH B λ c aX cK a5 aZ bK=>?_
  have aA:Step P fr env W Z s aB a0 { a8 with heap:=aX,toks:=cK }:=a9.aside F.hL nI aU (λ b o X e=>(bK.2 b X).trans e) rfl rfl
  have J:b y a0≠.bad:=by intro q; rw [q] at aD; exact D aD.symm
  refine af _ a0 aB _ y v (j+1) Ia c _ _ aZ J a5 ?_
  refine ha aB a0 _ y c aA.inv aA.loc a5 J _ _ λ aK a7 aC en eb=>?_
  rw [eb] at aD J
  have cL:=aA.trans aC
  obtain ⟨cX,cY⟩:=aZ.there
  have a6:Ia≠env.locals:=λ q=>aU.notFr (q ▸ F.hL)
  have bP:Out P fr aB a7.nxt Ia:=by rw [en]; exact aU
  have c9:ItAt aB a7.nxt aK.heap Ia v (j+1):=aZ.mono (.refl ..) (v1 en.symm) λ o e=>aC.nx.ext Ia o e a6 aU.notFr aU.notOwn
  refine j0 (X aB a7 aK aC.inv aC.loc J) (λ f aV ⟨fl,S,T,bD,O,hf⟩=>?_) (λ e s' h=>h.elim)
  rw [bD] at aD
  obtain ⟨cZ,cM⟩:=c9.there
  have Y:=cL.trans O
  have cA:=bP.step cM O.nx
  have cB:ItAt T S.nxt aV.heap Ia v (j+1):=c9.mono O.nx.wle O.nx.le λ o e=>O.nx.ext Ia o e a6 bP.notFr bP.notOwn
  cases hf with
  | next=>exact ⟨xs.length+1 - (j+1),by exact n_b5 hj,T,S,j+1,rfl,U,Y,cA,cB,aD⟩
  | cont=>exact ⟨xs.length+1 - (j+1),by exact n_b5 hj,T,S,j+1,rfl,U,Y,cA,cB,aD⟩
  | brk=>exact ⟨_,S,T,aD.symm,Y,.next⟩
  | ret hv=>exact ⟨_,S,T,aD.symm,Y,.ret hv⟩
set_option tactic.hygienic true in
theorem qSg {sc:Scope} {x:Str} {it:X} {b:S} {i:Expr} {z:List Stmt} {V pos:Pos} (h1:sc.names.lookup x=some .local) (h2:Ok it sc (.e i)) (U:xH P b sc (.l z)) (h4:kY i=false):xH P (.each x it b) sc (.s (.For (.Name x V) i z [] pos)):=by
 intro cx C fr A env F S
 intro W Z s I L B
 have D:cx.calm=false:=by
  cases h:cx.calm with
  | false=>rfl
  | true=>exact f8 (c7 h) B
 have Y:A.handled=none:=F.handled.plain (C.base.cal D)
 have O:ex (.each x it b) cx Z=(ev cx.toCx it Z).bind λ v a0=>match zV a0.toHp v with
   | some xs=>vD v xs (λ u Z=>ex b cx (Z.set x u)) xs a0
   | none=>.bad:=d0 (by rw [D]; decide)
 rw [O] at B ⊢
 refine wpAny_For (zU (sound C.base h2 fr A env F.toFm S).1 I L B (λ e s' h=>h) λ v cv aB a0 a8 aF J hv=>?_) (qPv h4)
 rw [Rs.bind_ok aF] at B ⊢
 revert B
 split <;> intro B
 ·rename_i xs a3
  refine j0 (zIr (E:=NoE) Y F (λ W Z s y c I L hy q Q E T=>t8 (zY F I L (S.loc x h1) hy λ s' st=>T s' _ st rfl rfl)) (λ s Z W n u v i Ia c Q E q q q h=>d9 h) (U cx C fr A env F S) hv J.inv J.loc B) (λ it aH h=>codeAny_mono h λ r s' hr=>?_) λ q q e=>e
  cases r with
  | ok f=>exact PostF.after J hr
  | error e=>exact hr
 ·exact f8 rfl B
theorem qFh:entryFor table "proto.unchain" = some Builtin.«proto.unchain»:=eS (by kernel_rfl)
theorem qWa (H:HdOk P A) (hx:∀ e u,P.ex=some (e,u)->s.heap.get? e=some u) {a:Addr} {o:Obj} {vs:Array g9} (hn:∀ e u,P.ex=some (e,u)->e≠a) (ha:s.heap.get? a=some o) (hd:o.data=.fields vs) (h2:2 < vs.size) {α:Type} {Q:α->d6->Prop}
  (D:∀ h',(∀ b B,b≠a->s.heap.get? b=some B->h'.get? b=some B)->(∃ B,h'.get? a=some B/\B.cls=o.cls)->E (.ref a) { s with heap:=h' }):wpAny P.M A (raiseNew (.ref a):Sem α) Q E s:=by
 rcases H with ⟨_,O⟩ | ⟨e,u,J,⟨T,g1,g2⟩,h3⟩
 ·exact wpAny_raiseNew_none O (D s.heap (λ b B z q=>q) ⟨o,ha,rfl⟩)
 ·unfold raiseNew
  refine d3 (wpAny_handled ?_)
  rw [h3]
  dsimp only
  have L:(pS e != pS a)=true:=by simpa using hn e u J
  rw [c7 L]
  refine d3 (l8 (wpAny_runValue (nP qFh ?_)))
  show wpAny _ _ (field (.ref e) 2 >>= _) _ _ s
  refine d3 (wpAny_field (hx e u J) g1 g2 ?_)
  show wpAny _ _ (if (Value.none == Value.none)=true then _ else _) _ _ s
  rw [c7 (by decide)]
  refine d9 ?_
  refine d3 ?_
  unfold updateField
  refine d3 (fA ha ?_)
  rw [hd]
  dsimp only
  rw [c7 h2]
  refine wpAny_update ha (wpAny_throw (D _ (λ b B S q=>(nL _ _ (eO S)).trans q) ⟨_,iI _ ha (Obj.isFreed_of_fields (Obj.data_mapFields hd _)),Obj.cls_mapFields ..⟩))
theorem zCr (H:HdOk P A) (hx:∀ e u,P.ex=some (e,u)->s.heap.get? e=some u) {it t:Addr} {i:Nat} {items:Array g9} {Q:Option g9->d6->Prop} (hi:∀ e u,P.ex=some (e,u)->e≠it)
  (D:IsTupIter s.heap it t i) (Y:IsTup s.heap t items) (he:items[i]? = none) (X:∀ h',pW it s.heap h'->Q none { s with heap:=h' }):wpAny P.M A (pyNext (.ref it)) Q E s:=by
 obtain ⟨o,S,hc,hd⟩:=id D
 obtain ⟨ol,V,_,nl,U⟩:=Y
 unfold pyNext
 refine d3 (wpAny_attempt (wpAny_callSpecial?_slot (name:=fB "__next__") D.typeIs slot_tupleiter_next (eT slot_tupleiter_next D.typeIs entry_tupleiter_next ?_ (args_tupleiter_next _))))
 show wpAny _ _ (field (.ref it) 0 >>= _) _ _ s
 refine d3 (wpAny_field S hd (x:=.ref t) rfl ?_)
 show wpAny _ _ (if (pS t == Value.none)=true then _ else _) _ _ s
 rw [d0 (show ¬ ((pS t == Value.none)=true) from gR)]
 show wpAny _ _ (field (.ref it) 1 >>= _) _ _ s
 refine d3 (wpAny_field S hd (x:=.int i 0) rfl ?_)
 show wpAny _ _ (seqItems? (.ref t) >>= _) _ _ s
 refine d3 (oE V U ?_)
 simp only [dP,he]
 refine d3 (pE (d3 (wpAny_setField S hd (by simp) ?_)))
 show wpAny _ _ (newExc (.type "StopIteration") [] >>= _) _ _ _
 refine d3 ?_
 simp only [newExc,newTuple]
 refine d3 (v2 ?_ (by size_fits))
 refine d3 (m:=firstArgMember _ _) (v6 (a:=Value.none) (by first | rfl | (simp only [firstArgMember]; rfl)) ?_)
 refine v2 ?_ (by size_fits)
 have old:∀ b J,b≠it->s.heap.get? b=some J->(((s.heap.update it (Obj.mapFields (·.setIfInBounds 0 Value.none))).push { cls:=.type "tuple", data:=.seq #[] }).get? b=some J):=λ b J L q =>
  j9 _ ((nL _ _ (eO L)).trans q)
 refine qWa (P:=P) (A:=A.in1) H (λ e u q=>j9 _ (old e u (hi e u q) (hx e u q))) (λ e u q O=>?_) (r4 _ rfl) rfl (by rw [gX]; exact m0 (show 2 < 6 by decide) (n4 6 _)) λ h' hk hs=>?_
 ·have:=gD (old e u (hi e u q) (hx e u q))
  rw [O] at this
  exact gV _ this
 ·obtain ⟨J,e1,e2⟩:=hs
  refine d3 (iM (T:="StopIteration") (b:=true) ⟨J,e1,e2⟩ isSubtype_stop ?_)
  refine d9 (X _ λ b B L q=>hk b B (λ O=>?_) (j9 _ (old b B L q)))
  have:=gD (old b B L q)
  rw [O] at this
  exact gV _ this
theorem qLz (H:HdOk P A) (hx:∀ e u,P.ex=some (e,u)->s.heap.get? e=some u) {t:Addr} {items:Array g9} {Q:Lv->d6->Prop} (B:IsTup s.heap t items)
  (U:∀ h',pW s.heap.objs.size s.heap h'->Q items.toList { s with heap:=h' }):wpAny P.M A (unpackItems (.ref t) items.size none) Q E s:=by
 have D:t≠s.heap.objs.size:=by obtain ⟨o,ho,_⟩:=B; exact r9 (gD ho)
 unfold unpackItems
 refine d3 ?_
 unfold notIterableAtAll
 refine d3 (wpAny_specialOf B.typeIs slot_tuple_iter.lookup (d9 ?_))
 rw [zX1]
 refine d3 (l8 (iter_tuple B ?_))
 refine d3 (l8 (draw_tuple D items.size 0 _ _ ⟨_,r4 _ rfl,rfl,rfl⟩ (B.push _) (v1 (iX _)) λ V X L=>?_))
 have J:List.take items.size (List.drop 0 items.toList)=items.toList:=by
  rw [lM]; exact t7 (by simp)
 rw [J,d0 (by simp)]
 have Y:IsTup V t items:=(B.push _).extBut L.extBut D
 refine d3 (l8 (zCr H (λ e u q=>?_) (λ e u q T=>?_) X Y (by simp) λ aX cP=>?_))
 ·have O:=hx e u q
  exact L.extBut e u (r9 (gD O)) (j9 _ O)
 ·have:=gD (hx e u q)
  rw [T] at this
  exact gV _ this
 ·rw [zX1]
  exact d9 (U aX λ b o S e=>cP b o S (L.extBut b o S (j9 _ e)))
theorem qHs {v:V} {k:V->V->Rs Fl} (h:jS v k≠.bad):∃ a b,qHu v=some [a,b]/\jS v k=k a b:=by
 unfold jS at h ⊢
 revert h
 cases qHu v with
 | none=>exact λ h=>f8 rfl h
 | some l=>cases l with
  | nil=>exact λ h=>f8 rfl h
  | cons a r=>cases r with
   | nil=>exact λ h=>f8 rfl h
   | cons b r=>cases r with
    | nil=>exact λ q=>⟨a,b,rfl,rfl⟩
    | cons=>exact λ h=>f8 rfl h
theorem qHt (H:HdOk P A) (I:Inv P fr W Z.toHp s) (L:Loc P env W Z s.heap) {v a b:V} {c:g9} (h:VR W Z.nxt v c) (e:qHu v=some [a,b]):∃ t B u,c=.ref t/\VR W Z.nxt a B/\VR W Z.nxt b u /\
  ∀ {E:Pv} {Q:Lv->d6->Prop},(∀ s',Step P fr env W Z s W Z s'->Q [B,u] s')->wpAny P.M A (unpackItems (.ref t) 2 none) Q E s:=by
 have h':=h.dat
 cases v with
 | tup =>
  refine bC λ D=>?_
  obtain ⟨t,o,items,S,rfl,T,h2,h3,h4,h5⟩:=h'
  refine D ?_
  cases e
  refine bC λ D=>?_
  obtain ⟨l⟩:=items
  obtain ⟨B,u,e2,x,y⟩:=VRs.inv2 h5
  have e3:l=[B,u]:=e2
  subst e3
  refine D ?_
  exact ⟨t,B,u,rfl,x,y,λ J=>qLz H (items:=#[B,u]) (λ e O q=>(I.frz _ _ (I.exc e O q)).1) ⟨o,(I.frz _ _ T).1,h2,S,h3⟩ λ h' hx=>J _ (Step.grow I L (λ b o e=>hx b o (r9 (gD e)) e) rfl rfl)⟩
 | _=>exact zN1 e
set_option tactic.hygienic true in
theorem qPc {x y:Str} {f:St->Rs V} {D O q p:Pos} {k:Nat} {v:Expr} (F:FmS P cx.lvl fr A env) (hx:env.kindOf x=some .local) (hy:env.kindOf y=some .local) (J:OkE P fr A env (eval v env) f)
  (a1:swapsWithSole [.Tuple [.Name x D,.Name y O] k q] v p.line env=pure false) (hw:swappedStores [.Tuple [.Name x D,.Name y O] k q] v env=pure none) :
  OkS P fr A env (exec (.Assign [.Tuple [.Name x D,.Name y O] k q] v p) env) (λ Z=>(f Z).bind λ v a0=>jS v λ a b=>.ok .next ((a0.set x a).set y b)):=by
 intro W Z s I L B
 refine Assign_Tuple (zU J I L B (λ e s' h=>h) λ u c aB a0 a8 Y T hv=>?_) a1 hw
 dsimp only at B
 rw [Rs.bind_ok Y] at B
 have hb:=Rs.bind_ok (f:=λ v a0=>jS v λ a b=>Rs.ok Fl.next ((a0.set x a).set y b)) Y
 refine bC λ n0=>?_
 obtain ⟨a,b,hp,hr⟩:=qHs B
 obtain ⟨t,ca,X,rfl,ha,a2,hU⟩:=qHt F.handled T.inv T.loc hv hp
 refine n0 ?_
 rw [assign_Tuple]
 refine d3 (eE ?_)
 unfold unpack
 refine d3 (l8 (hU λ aH S=>?_))
 show wpAny P.M A (do holding [X] (assign (.Name x D) env ca); (do holding [] (assign (.Name y O) env X); pure ())) _ _ _
 refine d3 (l8 (t8 (zY F S.inv S.loc hx ha λ aK U=>?_)))
 refine d3 (l8 (t8 (zY F U.inv U.loc hy a2 λ aV aN=>?_)))
 exact d9 ⟨_,_,aB,hb.trans hr,((T.trans S).trans U).trans aN,.next⟩
theorem qSl {sc:Scope} {x y:Str} {e:X} {B D q p r:Pos} {k:Nat} {g:Expr} {as:List Expr} {u:List nJ} (J:sc.names.lookup x=some .local) (h2:sc.names.lookup y=some .local) (h:Ok e sc (.e (.Call g as u r))) :
  xH P (.asg2 x y e) sc (.s (.Assign [.Tuple [.Name x B,.Name y D] k q] (.Call g as u r) p)):=λ cx C fr A env F S =>
 qPc F (S.loc x J) (S.loc y h2) (sound C.base h fr A env F.toFm S).1 (by unfold swapsWithSole; rfl) rfl
theorem Step.swap {x y:Str} {a b:V} (D:x≠y) (st:Step P fr env W Z s W' ((Z'.set y b).set x a) s'):Step P fr env W Z s W' ((Z'.set x a).set y b) s':=by
 refine ⟨st.nx,st.inv,⟨st.loc.kind,st.loc.glob,st.loc.bns,?_,st.loc.cel,st.loc.cod⟩⟩
 obtain ⟨m,B,h2⟩:=st.loc.loc
 refine ⟨m,B,λ z v J=>h2 z v ?_⟩
 have u:(wY y b (wY x a Z'.loc)).lookup z=some v:=J
 show (wY x a (wY y b Z'.loc)).lookup z=some v
 rw [zB,zB] at u ⊢
 by_cases B:z=x
 ·subst B; rw [c7 rfl]; rw [d0 D,c7 rfl] at u; exact u
 ·rw [d0 B]
  by_cases h2:z=y
  ·rw [c7 h2] at u ⊢; exact u
  ·rw [d0 h2] at u ⊢; rw [d0 B] at u; exact u
theorem qMk {env:Env} {x y:Str} {u B q r:Pos} {k k':Nat} {a b:Expr} (J:qHg a b=true) (h4:x≠y) (h5:u.line=B.line) (S:env.blockKind=.function) (hx:env.kindOf x=some .local) (hy:env.kindOf y=some .local) :
  swappedStores [.Tuple [.Name x u,.Name y B] k q] (.Tuple [a,b] k' r) env=pure (some [x,y]):=by
 unfold qHg at J
 simp only [d8,dO] at J
 refine bC λ X=>?_
 obtain ⟨⟨⟨T,O⟩,U⟩,L⟩:=J
 refine X ?_
 have D:([x,y]:List Str).eraseDups.length=2:=by
  have hb:(y == x)=false:=by simpa using eO h4
  simp [List.eraseDups_cons,hb]
 have Y:(env.kindOf x == some NameKind.local && u.line == u.line)=true:=by rw [hx]; simp
 have V:(env.kindOf y == some NameKind.local && B.line == u.line)=true:=by rw [hy]; simp [h5]
 have hm:∀ g:Expr->Option Str,g (.Name x u)=some x->g (.Name y B)=some y->[iO x u,.Name y B].filterMap g=[x,y]:=λ g e1 e2=>by
  rw [mM e1,mM e2]; rfl
 have any:∀ g:Expr->Bool,g a=false->g b=false->¬ ([a,b].any g=true):=λ g e1 e2=>by
  show ¬ ((g a || (g b || false))=true)
  rw [e1,e2]; decide
 have all:∀ g:Expr->Bool,(g a && g b)=false->¬ ([a,b].all g=true):=λ g e=>by
  show ¬ ((g a && (g b && true))=true)
  rw [iS,e]; decide
 delta swappedStores
 show (if (!([iO x u,.Name y B].length == 2 || [iO x u,.Name y B].length == 3) || [a,b].length != [iO x u,.Name y B].length || env.blockKind != .function)=true then _ else _)=_
 rw [S]
 refine (d0 (λ q=>Bool.noConfusion (show false=true from q))).trans ?_
 refine (d0 (any _ T O)).trans ?_
 dsimp only
 rw [hm _ (c7 Y) (c7 V),D]
 refine (d0 (λ q=>Bool.noConfusion (show false=true from q))).trans ?_
 refine (d0 (all _ U)).trans ?_
 exact d0 (all _ L)
set_option tactic.hygienic true in
theorem qJe {x y:Str} {f:St->Rs V} {D S q p:Pos} {k:Nat} {v:Expr} (F:FmS P cx.lvl fr A env) (hx:env.kindOf x=some .local) (hy:env.kindOf y=some .local) (X:x≠y) (J:OkE P fr A env (eval v env) f)
  (a2:swapsWithSole [.Tuple [.Name x D,.Name y S] k q] v p.line env=pure false) (hw:swappedStores [.Tuple [.Name x D,.Name y S] k q] v env=pure (some [x,y])) :
  OkS P fr A env (exec (.Assign [.Tuple [.Name x D,.Name y S] k q] v p) env) (λ Z=>(f Z).bind λ v a0=>jS v λ a b=>.ok .next ((a0.set x a).set y b)):=by
 intro W Z s I L B
 refine Assign_Tuple_swapped (names:=[x,y]) (zU J I L B (λ e s' h=>h) λ u c aB a0 a8 Y T hv=>?_) a2 hw
 dsimp only at B
 rw [Rs.bind_ok Y] at B
 have hb:=Rs.bind_ok (f:=λ v a0=>jS v λ a b=>Rs.ok Fl.next ((a0.set x a).set y b)) Y
 refine bC λ n0=>?_
 obtain ⟨a,b,hp,hr⟩:=qHs B
 obtain ⟨t,ca,cb,rfl,ha,a3,hU⟩:=qHt F.handled T.inv T.loc hv hp
 refine n0 ?_
 refine hU λ aH O=>?_
 show wpAny P.M A (do holding [ca] (bindName env y cb); (do holding [] (bindName env x ca); pure ())) _ _ _
 refine d3 (l8 (bindName_ (zY F O.inv O.loc hy a3 λ aK U=>?_)))
 refine d3 (l8 (bindName_ (zY F U.inv U.loc hx ha λ aV aN=>?_)))
 exact d9 ⟨_,_,aB,hb.trans hr,Step.swap X (((T.trans O).trans U).trans aN),.next⟩
theorem qMp {sc:Scope} {x y:Str} {e:X} {B J q p r:Pos} {k O:Nat} {a b:Expr} (T:sc.names.lookup x=some .local) (h2:sc.names.lookup y=some .local) (h:Ok e sc (.e (.Tuple [a,b] O r))) (U:qHg a b=true) (h4:(x != y && B.line == J.line)=true) :
  xH P (.asg2 x y e) sc (.s (.Assign [.Tuple [.Name x B,.Name y J] k q] (.Tuple [a,b] O r) p)):=by
 intro cx C fr A env F S
 simp only [d8,iP,j8] at h4
 intro W Z s I L u
 have D:env.blockKind=.function:=by unfold Env.blockKind; rw [L.kind]; rfl
 exact qJe F (S.loc x T) (S.loc y h2) h4.1 (sound C.base h fr A env F.toFm S).1 (by unfold swapsWithSole; rfl) (qMk U h4.1 h4.2 D (S.loc x T) (S.loc y h2)) W Z s I L u
def putA (cx:Sx) (o:X) (f:Str) (v:V) (Z:St):Rs Fl:=(ev cx.toCx o Z).bind λ vo a7=>kD ((cx.setA vo f v a7.toHp).map λ H=>{ a7 with toHp:=H })
set_option tactic.hygienic true in
theorem zEq (C:SxOk P cx) (F:FmS P cx.lvl fr A env) {sc:Scope} (S:ScOk sc env) {o:X} {t:Expr} {f:Str} {p:Pos} (h1:Ok o sc (.e t)) (I:Inv P fr W Z.toHp s) (L:Loc P env W Z s.heap) {v:V} {c:g9} (hv:VR W Z.nxt v c) (u:putA cx o f v Z≠.bad) {Q:Unit->d6->Prop}
  (D:∀ W' Z' s',putA cx o f v Z=.ok .next Z'->Step P fr env W Z s W' Z' s'->Q () s'):wpAny P.M A (assign (.Attribute t f p) env c) Q NoE s:=by
 unfold putA at u D
 rw [PySem.assign_Attribute]
 refine d3 (l8 (zU (sound C.base h1 fr A env F.toFm S).1 I L u (λ e s' h=>h) λ vo T O a0 a8 U B J=>?_))
 rw [Rs.bind_ok U] at u D
 refine d3 (eE ?_)
 refine d3 (l8 ?_)
 cases hp:cx.setA vo f v a0.toHp with
 | none=>rw [hp] at u; exact f8 rfl u
 | some Hn =>
  rw [hp] at D
  exact C.setA fr A env F.toFm O a0 a8 B.inv B.loc vo f v T c Hn J (hv.mono B.nx.wle B.nx.le) hp _ _ λ aM Y aC=>wpAny_release' (D aM _ Y rfl (B.trans aC))
set_option tactic.hygienic true in
theorem qSi {sc:Scope} {x y:Str} {e:X} {T V p:Pos} {v:Expr} (h1:sc.names.lookup x=some .local) (h2:sc.names.lookup y=some .local) (h:Ok e sc (.e v)):xH P (.asgs x y e) sc (.s (.Assign [.Name x T,.Name y V] v p)):=by
 intro cx C fr A env F S W Z s I L B
 have O:ex (.asgs x y e) cx Z=(ev cx.toCx e Z).bind λ v a0=>.ok .next ((a0.set x v).set y v):=rfl
 rw [O] at B ⊢
 refine wpAny_Assign_two (zU (sound C.base h fr A env F.toFm S).1 I L B (λ e s' h=>h) λ u c U a0 a8 Y J hu=>?_)
 rw [Rs.bind_ok Y]
 refine t8 (zY F J.inv J.loc (S.loc x h1) hu λ aH D=>?_)
 exact t8 (zY F D.inv D.loc (S.loc y h2) hu λ aK aC=>⟨_,_,U,rfl,(J.trans D).trans aC,.next⟩)
theorem qSd {sc:Scope} {o:X} {f x:Str} {es:X} {t:Expr} {aI aJ r p:Pos} {l:List Expr} (h1:sc.names.lookup x=some .local) (h2:Ok o sc (.e t)) (h:Ok es sc (.es l)):xH P (.ownA o f x (.list es)) sc (.s (.Assign [.Attribute t f aI,.Name x aJ] (.List l r) p)):=by
 intro cx C fr A env F S W Z s I L u
 have Y:ex (.ownA o f x (.list es)) cx Z=(ev cx.toCx (.list es) Z).bind λ v a0=>qNq v a0 λ r a7=>(ev cx.toCx o a7).bind λ vo aG=>kD ((cx.setA vo f r aG.toHp).map λ H=>({ aG with toHp:=H }:St).set x r):=rfl
 rw [Y] at u ⊢
 refine wpAny_Assign_two (qBb C F S h I L (Rs.bind_ne u) (λ e s' h=>h.elim) λ xs a0 a aB a8 aF R=>?_)
 rw [Rs.bind_ok aF] at u ⊢
 refine bC λ n0=>?_
 obtain ⟨V,aA,aR,_⟩:=R.keep .owned
 refine n0 ?_
 have hr:∀ k,qNq (.list xs) a0 k=k (.ref a0.nxt) (a0.add (.list xs)):=λ k=>rfl
 rw [hr] at u ⊢
 have U:VR V (a0.add (.list xs)).nxt (.ref a0.nxt) (.ref a):=aR
 have O:Step P fr env W Z s V (a0.add (.list xs)) a8:=aA
 have hn:putA cx o f (.ref a0.nxt) (a0.add (.list xs))≠.bad:=λ q=>u (by
  unfold putA at q
  cases D:ev cx.toCx o (a0.add (.list xs)) with
  | bad=>rfl
  | ok vo aG =>
   rw [Rs.bind_ok D] at q
   show kD ((cx.setA vo f (.ref a0.nxt) aG.toHp).map λ H=>({ aG with toHp:=H }:St).set x (.ref a0.nxt))=.bad
   cases hp:cx.setA vo f (.ref a0.nxt) aG.toHp with
   | none=>rfl
   | some H=>rw [hp] at q; cases q)
 refine zEq C F S h2 O.inv O.loc U hn λ aM aG aK B J=>?_
 refine t8 (zY F J.inv J.loc (S.loc x h1) (U.mono J.nx.wle J.nx.le) λ aV aN=>?_)
 refine ⟨_,_,aM,?_,(O.trans J).trans aN,.next⟩
 unfold putA at B
 cases D:ev cx.toCx o (a0.add (.list xs)) with
 | bad=>rw [D] at B; cases B
 | ok vo T =>
  rw [Rs.bind_ok D] at B
  show kD ((cx.setA vo f (.ref a0.nxt) T.toHp).map λ H=>({ T with toHp:=H }:St).set x (.ref a0.nxt))=_
  cases hp:cx.setA vo f (.ref a0.nxt) T.toHp with
  | none=>rw [hp] at B; cases B
  | some H=>rw [hp] at B; cases B; rfl
end
theorem qZg:builtinKind "dict.__getitem__" = some .method:=by decide +kernel
theorem qRy:splitId "dict.__getitem__" = some ("dict", "__getitem__"):=by decide +kernel
theorem qOt {M:Model} {A:n6} {E:Pv} {s:d6} {i owner n:String} {self:g9} {rest:Lv} {kw:List (Str×g9)} {Q:Unit->d6->Prop}
  (hk:builtinKind i=some .method) (hs:splitId i=some (owner,n)) (hi:Looks M s.heap (isInstance self (.type owner)) true) (ha:argsOk i ⟨self::rest,kw⟩) (q:Q () s) :
  wpAny M A (checkBuiltinCall i ⟨self::rest,kw⟩) Q E s:=by
 simp only [checkBuiltinCall,hk,hs]
 refine d3 (hi.here ?_)
 simp only [Bool.not_true,gO,oH]
 cases u:gI i with
 | none=>exact d9 q
 | some B =>
  simp only [argsOk,u] at ha
  have h2:Bind.checkArgs i B ⟨self::rest,kw⟩=pure ():=ha
  exact v6 h2 q
section
variable {prog:gA} {w:World} {A:n6} {E:Pv} {s:d6} {K:Frag} {C d:Addr} {f:Nat->Nat}
theorem qWh (T:TabOk K C d f) (X:K.In s.heap) {c:Nat} (hc:c < 128) {t:Tok} {Q:Option g9->d6->Prop} (L:∀ u,Q (some (.int (f c:Nat) u)) { s with toks:=s.toks+1 }):wpAny (model prog w) A (dictGet d (.int c t)) Q E s:=by
 refine bC λ S=>?_
 obtain ⟨o,es,U,O,_,hd,hk,hv⟩:=T.obj
 obtain ⟨u,B⟩:=hv c hc
 refine S ?_
 have D:=X _ _ O
 unfold dictGet
 try with_reducible refine l8 ?_
 refine d3 (wpAny_pyHash_int (d3 (wpAny_dictFind_int (s:={ s with toks:=s.toks+1 }) D hd hk ?_)))
 rw [findBy_of_findIdx?] at B
 cases hi:es.findIdx? λ e=>mJ c e.key with
 | none=>rw [hi] at B; cases B
 | some i =>
  rw [hi] at B
  refine d3 (wpAny_dictEntries (s:={ s with toks:=s.toks+1 }) D hd (d9 ?_))
  have J:es[i]?.map (·.val)=some (.int (f c:Nat) u):=B
  rw [J]
  exact L u
theorem qJu (T:TabOk K C d f) (X:K.In s.heap) {c:Nat} (hc:c < 128) {t:Tok} {Q:Pv} (L:∀ u,Q (.int (f c:Nat) u) { s with toks:=s.toks+1 }):wpAny (model prog w) A (getItem (.ref d) (.int c t)) Q E s:=by
 obtain ⟨o,es,O,J,B,_⟩:=T.obj
 have LT:Looks (model prog w) s.heap (typeOf (.ref d)) (.ref C):=looks_typeIn X (by show (K.lookup d).map (·.cls)=_; rw [J]; exact g8 some B)
 have LI:Looks (model prog w) s.heap (isInstance (.ref d) (.type "dict")) true:=looks_instIn X (by
  show ((K.lookup d).map (·.cls)).bind _=_
  rw [J]
  show subIn K o.cls _=_
  rw [B]
  exact T.sub)
 have D:(seqItemTypes.all λ n=>subIn K (.ref C) (.type n) == some false)=true:=by
  rw [show seqItemTypes=["collections.deque"] from rfl,pK,T.seq,List.all_nil]; decide
 unfold getItem
 try with_reducible refine l8 ?_
 refine d3 ?_
 unfold sequenceKey
 refine d3 (LT.here ?_)
 dsimp only
 refine d3 ((anyM_none (l:=seqItemTypes) X D).here ?_)
 refine d9 ?_
 refine d3 ?_
 unfold callSpecial? specialOf
 refine d3 (d3 (LT.here ((looks_findIn X T.get).here ?_)))
 dsimp only
 refine l8 (d3 ?_)
 rw [PySem.slot_dict_getitem.bind]
 refine d9 (d3 ?_)
 refine iN (iY PySem.slot_dict_getitem.plain PySem.entry_dict_getitem ?_)
 show wpAny _ _ (checkBuiltinCall "dict.__getitem__" ⟨[.ref d,.int c t],[]⟩) _ _ _
 refine qOt (i:="dict.__getitem__") (self:=.ref d) (rest:=[.int c t]) (kw:=[]) (owner:="dict") (n:="__getitem__") qZg qRy LI (PySem.args_dict_getitem (.ref d) (.int c t)) ?_
 show wpAny _ _ (dictGet d (.int c t) >>= _) _ _ s
 refine d3 (qWh T X hc λ u=>?_)
 exact d9 (d9 (d9 (L u)))
end
def TrI (f:Nat->Nat) (s:d6) (all:Ln) (rest:Ln) (b:List Str×Nat×Bool×List (Nat×Option Nat)×Bool) (s':d6):Prop :=
 ∃ u,all=u++rest/\b.1=(u.map λ c=>({ cps:=#[f c] }:Str)).reverse/\b.2.1=u.length/\b.2.2.1=true/\(∀ c a,b.2.2.2.1.lookup c=some a->a=some (f c))/\∃ k,s.toks<=k/\s'={ s with toks:=k }
theorem qAu (f:Nat->Nat):∀ (l:Ln) (a:Array Nat),(l.map λ c=>({ cps:=#[f c] }:Str)).foldl (λ acc p=>acc++p.cps) a=a++(l.map f).toArray
 | [],a=>by simp
 | c::l,a=>by
  rw [v4,nR,qAu f l,v4]
  apply Array.toList_inj.mp
  simp
theorem zCs (f:Nat->Nat) (l:Ln):(l.map λ c=>({ cps:=#[f c] }:Str)).foldl (λ acc p=>acc++p.cps) #[]=(l.map f).toArray:=by
 rw [qAu]; simp
section
variable {prog:gA} {w:World} {A:n6} {E:Pv} {s:d6} {K:Frag} {C d:Addr} {f:Nat->Nat}
theorem qMh (T:TabOk K C d f) (X:K.In s.heap) {c:Nat} (hc:c < 128) {Q:Builtin.Str.Mapped->d6->Prop} (B:Q (.char (f c)) { s with toks:=s.toks+2 }):wpAny (model prog w) A (mU (.ref d) c) Q E s:=by
 unfold mU
 refine d3 (wpAny_attempt (d3 (mF (qJu T (s:={ s with toks:=s.toks+1 }) X hc λ u=>?_))))
 dsimp only
 refine d3 (v6 (a:=some ((f c:Nat):Int)) rfl ?_)
 dsimp only
 have D:=T.low c hc
 rw [d0 (by simp; lia)]
 exact d9 B
set_option tactic.hygienic true in
theorem qCr (T:TabOk K C d f) (X:K.In s.heap) {x:Str} {t:Tok} (hx:∀ c∈x.cps.toList,c < 128) (Y:x.length<=g0) {Q:Fin->d6->Prop} (h0:x.length=0->Q (.done (.ret (.str x t))) s)
  (h1:0 < x.length->∀ k,s.toks<=k->Q (.done (.ret (.str (kJ f x) k))) { s with toks:=k+1 }) :
  wpAny (model prog w) A (Builtin.«str.translate» ⟨[.str x t,.ref d],[]⟩) Q E s:=by
 unfold Builtin.«str.translate»
 refine d3 (v6 (a:=(.str x t,x,.ref d)) rfl ?_)
 by_cases S:x.length=0
 ·exact wpAny_ite_true (h8 (beq_iff_eq.mpr S)) (d3 (pE (d9 (h0 S))))
 ·refine nS (r5 λ q=>S (beq_iff_eq.mp q)) ?_
  have a1:x.cps.all (λ c=>decide (c < 128))=true:=by
   rw [Array.all_eq_true']
   intro c hc
   exact h8 (hx c (Array.mem_toList_iff.mpr hc))
  refine d3 (j0 (Q:=λ b s'=>TrI f s x.cps.toList [] b s') ?_ ?_ λ y y z=>z)
  ·refine PySem.MeetsSeq2.wpAny_forIn_array _ (TrI f s x.cps.toList) _ ?_ (λ b s' h=>h) x.cps _ ⟨[],rfl,rfl,rfl,a1,(λ y y e=>nomatch e),s.toks,d7 _,rfl⟩
   rintro c rest ⟨ps,n,a0,u,L⟩ s' ⟨B,e1,rfl,rfl,rfl,h5,k,hk,rfl⟩
   have U:c∈x.cps.toList:=by rw [e1]; simp
   have hc:=hx c U
   have a4:B.length<=g0:=by
    have e2:x.cps.toList.length=B.length+(rest.length+1):=by rw [e1]; simp
    have e3:x.cps.toList.length=x.length:=h9
    exact m_d0 Y e2 e3
   have D:¬ eP B.length=true:=by unfold eP; simpa using a4
   have J:∀ (V:List (Nat×Option Nat)) O,s.toks<=O->(∀ c a,V.lookup c=some a->a=some (f c)) ->
     TrI f s x.cps.toList rest (({ cps:=#[f c] }:Str)::(B.map λ c=>({ cps:=#[f c] }:Str)).reverse,B.length+1,true,V,L) { s with toks:=O }:=λ V O a2 a3 =>
    ⟨B++[c],by rw [e1]; simp,by simp,by simp,rfl,a3,O,a2,rfl⟩
   refine nS (r5 D) (wpAny_ite_true (h8 rfl) ?_)
   show wpAny _ _ (match u.lookup c with | some a=>_ | none=>_) _ _ _
   cases ha:u.lookup c with
   | some a =>
    obtain rfl:=h5 _ _ ha
    exact d3 (d9 (d9 (J u k hk h5)))
   | none =>
    refine d3 (qMh T (s:={ s with toks:=k }) X hc ?_)
    dsimp (config:={ zeta:=false }) only
    rw [c7 (T.low c hc)]
    refine d3 (d9 (d9 (J _ (k+2) (by exact d5 hk (n4 _ 2)) ?_)))
    intro c' a ha
    rw [List.lookup_cons] at ha
    split at ha
    ·rename_i he
     cases ha
     rw [beq_iff_eq.mp he]
    ·exact h5 _ _ ha
  ·rintro ⟨ps,n,a0,u,L⟩ s' ⟨B,e1,rfl,rfl,rfl,h5,k,hk,rfl⟩
   have e2:B=x.cps.toList:=by rw [e1,cN]
   subst e2
   have e3:x.cps.toList.length=x.length:=h9
   have D:¬ eP x.cps.toList.length=true:=by unfold eP; simp only [j4]; simp [Y,e3]
   refine nS (r5 D) ?_
   rw [List.reverse_reverse,zCs]
   exact d3 (wpAny_mkStr (s:={ s with toks:=k }) (d9 (h1 (by exact nM S) k hk)) (by show (x.cps.toList.map f).toArray.size<=g0; rw [n7,k0]; simp [Y,e3]))
end
end Mine.Lake
namespace Mine.Lake
open PySem PySem.W PyProof.Rows PySem.Builtin PySem.Builtin.Str
section
variable {prog:gA} {w:World} {A:n6} {E:Pv} {s:d6}
theorem qIl {M:Model} {x:Str} {t:Tok} {u:Sem Bool} {Q:g9×Lv->d6->Prop} (h:Q (.builtin "str.translate", [.str x t]) s):wpAny M A (getMethod (.str x t) "translate" u) Q E s:=by
 with_reducible exact GM.of (.str x t) (aT _ _ _) F.slot_str_translate F.type_str_translate lW h
theorem qOv {K:Frag} {C d:Addr} {f:Nat->Nat} (T:TabOk K C d f) (X:K.In s.heap) {x:Str} {t:Tok} (hx:∀ c∈x.cps.toList,c < 128) (D:x.length<=g0) {Q:Pv} (u:x.length=0->Q (.str x t) s)
  (B:0 < x.length->∀ k,s.toks<=k->Q (.str (kJ f x) k) { s with toks:=k+1 }):wpAny (model prog w) A (call (.builtin "str.translate") [.str x t,.ref d] []) Q E s :=
 eT F.slot_str_translate (aT _ _ _) F.entry_str_translate
  (qCr T X hx D (λ e=>⟨_,rfl,u e⟩) λ e k hk=>⟨_,rfl,B e k hk⟩) (F.args_str_translate_2 _ _)
theorem zBq {x y z:Str} {t u v:Tok} {Q:Pv} (hu:x.length≠0->u≠0/\v≠0/\u≠v) (T:(occurrences ⟨#[]⟩ y 0 0 1).isEmpty=true) (J:(y == z)=false) (U:x.length+(x.length+1) * z.length<=16777216)
  (L:∀ X k,s.toks<=k->Q (.str (u2 x y z) X) { s with toks:=k }):wpAny (model prog w) A (call (.builtin "str.replace") [.str x t,.str y u,.str z v] []) Q E s:=by
 have O:tooLong (x.length+(occurrences x y 0 x.length (x.length+1)).length * z.length)=false:=by
  have V:=StrLaws.occ_length_le x y 0 x.length (x.length+1)
  have h2:(occurrences x y 0 x.length (x.length+1)).length * z.length<=(x.length+1) * z.length:=fP _ V
  have e:(2:Nat) ^ 24=16777216:=by decide
  unfold tooLong g0
  exact r5 (by lia)
 have D:((occurrences x y 0 x.length (x.length+1)).isEmpty || (y.length == 0 && z.length == 0))=false->x.length≠0:=by
  intro hc S
  have:x=⟨#[]⟩:=by
   obtain ⟨c⟩:=x
   have:c = #[]:=w9 S
   rw [this]
  subst this
  rw [show ((⟨#[]⟩:Str).length)=0 from rfl,T] at hc
  exact zT1 hc
 refine call_gives F.slot_str_replace (aT _ _ _) F.entry_str_replace (F.args_str_replace_3 _ _ _)
  (gives_str_replace x y z t u v λ hc=>by
   obtain ⟨a,b,c⟩:=hu (D hc)
   exact ⟨by simp [a,b],by simp [c],J,O⟩) ?_
 have B:=L
 unfold u2 at B
 cases hc:((occurrences x y 0 x.length (x.length+1)).isEmpty || (y.length == 0 && z.length == 0))
 ·rw [hc] at B
  simp only [gO,oH] at B ⊢
  exact ⟨fits_replaced y U,B _ _ (dY _)⟩
 ·rw [hc] at B
  simp only [pO] at B ⊢
  exact B t s.toks (d7 _)
end
def zJp (v:Str) (s:d6):Prop:=v.length=0\/0 < s.toks
section
variable {P:Par} {fr:Ln} {A:n6} {env:Env} {W W':Wd} {Z Z':St} {s s':d6} {cx:Sx}
theorem qFu {E:Pv} (F:FmS P cx.lvl fr A env) (I:Inv P fr W Z.toHp s) (L:Loc P env W Z s.heap) {x:Str} {v:V} {c:g9} (hx:env.kindOf x=some .local) (hv:VR W Z.nxt v c) {Q:Unit->d6->Prop}
  (D:∀ s',Step P fr env W Z s W (Z.set x v) s'->s.toks<=s'.toks->Q () s'):wpAny P.M A (storeName env x c) Q E s:=by
 obtain ⟨m,hn,_⟩:=L.loc
 exact fL hx hn (λ h' u B=>D _ (Step.set I L F.hL hv hx hn u B rfl rfl) (dY _)) (by rw [L.kind]; rfl)
set_option tactic.hygienic true in
theorem qXr (F:FmS P cx.lvl fr A env) (I:Inv P fr W Z.toHp s) (L:Loc P env W Z s.heap) {x v a b:Str} {q u ap p1 p2 r p:Pos} {B D:Nat} (hx:env.kindOf x=some .local) (hg:zR x=true)
  (hv:Z.loc.lookup x=some (.str v)) (hp:zJp v s) (ha:qYy a b=true) (a6:a.length<=g0) (a4:b.length<=g0) (hr:qDf v a b=true) (h5:ap.endLine=r.line) {Q:Flow->d6->Prop} {E:Pv}
  (Y:∀ s',Step P fr env W Z s W (Z.set x (.str (u2 v a b))) s'->zJp (u2 v a b) s'->Q .next s') :
  wpAny P.M A (exec (.Assign [.Name x q] (.Call (.Attribute (.Name x u) "replace" ap) [.Constant (.str a) B p1,.Constant (.str b) D p2] [] r) p) env) Q E s:=by
 refine bC λ T=>?_
 obtain ⟨hd,a7⟩:=jB hg
 refine T ?_
 unfold qYy at ha
 unfold qDf at hr
 simp only [d8,dO,j4] at ha hr
 refine bC λ T=>?_
 obtain ⟨m,hn,hl⟩:=L.loc
 obtain ⟨_,c,hm,S⟩:=hl x (.str v) hv
 obtain ⟨t,rfl,a5,_⟩:=S.inv_str
 refine T ?_
 refine fN ?_ (kA rfl ..)
 have a8:starEach [iT (.str a) B p1,.Constant (.str b) D p2] env=[(false,eval (.Constant (.str a) B p1) env),(false,eval (.Constant (.str b) D p2) env)]:=rfl
 have J:methodCallForm ([iT (.str a) B p1,.Constant (.str b) D p2].length+([]:List nJ).length) (backTo r (starEach [iT (.str a) B p1,.Constant (.str b) D p2] env)) (backToKw r (keywordEach [] env))=true:=rfl
 have O:methodCallPos true (.Name x u) env ap r=pure r:=by unfold methodCallPos; simp [h5]
 show wpAny P.M A (do
  let ov ← attributeBase (.Name x u) "replace" env (eval (.Name x u) env)
  standAt ap.atName
  methodCall (.Name x u) "replace" ap r env ov ([iT (.str a) B p1,.Constant (.str b) D p2].length+([]:List nJ).length) (backTo r (starEach [iT (.str a) B p1,.Constant (.str b) D p2] env)) (backToKw r (keywordEach [] env))) _ _ s
 rw [show attributeBase (.Name x u) "replace" env (eval (.Name x u) env)=eval (.Name x u) env from rfl]
 refine d3 (pG (fV L.kind hx hn hm (d3 (eE ?_))) hd)
 unfold methodCall
 rw [J]
 refine d3 (l8 (GM.replace ?_))
 refine d3 (v6 O ?_)
 refine kS rfl ?_
 refine mV (lU ?_) rfl
 refine mV (lU ?_) rfl
 refine wpAny_items_nil ⟨λ E Q X=>d9 (X _),?_⟩
 refine zBq (λ hz=>?_) ha.1 (by simpa using ha.2) hr.1.1 λ t' k hk=>?_
 ·rcases hp with hp | hp
  ·exact f8 hp hz
  ·exact ⟨by show s.toks≠0; exact v9 hp,by show s.toks+1≠0; exact n_c0,by show s.toks≠s.toks+1; exact r9 (n5 _)⟩
 ·have st:=Step.toks I L k
  refine qFu F st.inv st.loc hx (.str _ _ hr.1.2 hr.2) λ s' V U=>?_
  refine Y s' (st.trans V) ?_
  rcases hp with hp | hp
  ·refine .inl ?_
   have:v=⟨#[]⟩:=by
    obtain ⟨c⟩:=v
    have:c = #[]:=w9 hp
    rw [this]
   subst this
   unfold u2
   rw [show ((⟨#[]⟩:Str).length)=0 from rfl,ha.1]
   rfl
  ·exact .inr (by have h1:s.toks+1+1<=k:=hk; have h2:k<=s'.toks:=U; lia)
theorem qFy {x:Str} {u v:V} (st:Step P fr env W Z s W' ((Z.set x u).set x v) s'):Step P fr env W Z s W' (Z.set x v) s':=by
 refine ⟨st.nx,st.inv,⟨st.loc.kind,st.loc.glob,st.loc.bns,?_,st.loc.cel,st.loc.cod⟩⟩
 obtain ⟨m,D,h2⟩:=st.loc.loc
 refine ⟨m,D,λ z w J=>h2 z w ?_⟩
 have B:(wY x v Z.loc).lookup z=some w:=J
 show (wY x v (wY x u Z.loc)).lookup z=some w
 rw [zB] at B ⊢
 by_cases D:z=x
 ·rw [c7 D] at B ⊢; exact B
 ·rw [d0 D] at B ⊢
  rw [zB,d0 D]
  exact B
set_option tactic.hygienic true in
theorem zEn (F:FmS P cx.lvl fr A env) {x:Str} {Q:Flow->d6->Prop} {E:Pv} (hx:env.kindOf x=some .local) (hg:zR x=true) {ps:List (Str×Str)} {l l':List Stmt} (h:Reps x ps l l') :
  ∀ {W:Wd} {Z:St} {s:d6} {v v':Str},Inv P fr W Z.toHp s->Loc P env W Z s.heap->Z.loc.lookup x=some (.str v)->zJp v s->qDe ps v=some v' ->
   (∀ s',Step P fr env W Z s W (Z.set x (.str v')) s'->wpAny P.M A (execs l' env) Q E s')->wpAny P.M A (execs l env) Q E s:=by
 induction h with
 | nil =>
  intro W Z s v v' I L hv hp e D
  cases e
  refine D s ?_
  refine ⟨(Step.refl I L).nx,I,⟨L.kind,L.glob,L.bns,?_,L.cel,L.cod⟩⟩
  obtain ⟨m,U,h2⟩:=L.loc
  refine ⟨m,U,λ z w V=>h2 z w ?_⟩
  have u:(wY x (.str v) Z.loc).lookup z=some w:=V
  rw [zB] at u
  by_cases B:z=x
  ·rw [c7 B] at u; cases u; rw [B]; exact hv
  ·rw [d0 B] at u; exact u
 | @cons a b ps q Y ap p1 p2 r p X k2 l l' hc hr T =>
  intro W Z s v v' I L hv hp e D
  simp only [d8,j4,j8] at hc
  have J:(if qDf v a b=true then qDe ps (u2 v a b) else none)=some v':=e
  split at J
  ·rename_i hk
   refine mT (qXr F I L hx hg hv hp hc.1.1.1 hc.1.1.2 hc.1.2 hk hc.2 λ s' st S=>?_)
   refine T st.inv st.loc ?_ S J λ s'' O=>D s'' (qFy (st.trans O))
   show (wY x _ Z.loc).lookup x=_
   rw [zB,c7 rfl]
  ·exact zN1 J
theorem vC {α β:Type} {o:Option α} {f:α->Rs β} (h:o.elim .bad f≠.bad):∃ a,o=some a/\o.elim .bad f=f a:=by
 cases o with
 | none=>exact f8 rfl h
 | some a=>exact ⟨a,rfl,rfl⟩
theorem zDv {sc:Scope} {x D:Str} {ps:List (Str×Str)} {b:S} {q J ap p1 r p:Pos} {l l':List Stmt} (h1:(zR x && sc.names.lookup x == some .local)=true) (h2:Ok (.glob D) sc (.e (.Name D p1))) (h5:ap.endLine=r.line)
  (hr:Reps x ps l l') (ib:xH P b sc (.l l')) :
  xH P (.sq x D ps b) sc (.l (.Assign [.Name x q] (.Call (.Attribute (.Name x J) "translate" ap) [.Name D p1] [] r) p::l)):=by
 intro cx C fr A env F S
 have Jb:=ib cx C fr A env F S
 have Jg:=(sound C.base h2 fr A env F.toFm S).1
 simp only [d8,j8] at h1
 have hx:=S.loc x h1.2
 obtain ⟨hd,as⟩:=jB h1.1
 intro W Z s I L B
 have ag:ex (.sq x D ps b) cx Z=(match Z.loc.lookup x with
  | some (.str v)=>(cx.gl D).elim .bad λ vt=>(cx.tr vt).elim .bad λ f=>(qMt f ps v).elim .bad λ v'=>ex b cx (Z.set x (.str v'))
  | _=>.bad):=rfl
 rw [ag] at B ⊢
 cases h0:Z.loc.lookup x with
 | none=>rw [h0] at B; exact f8 rfl B
 | some w0 =>
  rw [h0] at B
  obtain ⟨v,hw⟩:∃ v,w0=.str v:=by
   cases w0 with
   | str v=>exact ⟨v,rfl⟩
   | _=>exact f8 rfl B
  subst hw
  have hv:=h0
  dsimp only at B ⊢
  obtain ⟨vt,e1,r1⟩:=vC B
  rw [r1] at B ⊢
  obtain ⟨f,e2,r2⟩:=vC B
  rw [r2] at B ⊢
  obtain ⟨v',e3,r3⟩:=vC B
  rw [r3] at B ⊢
  obtain ⟨d,K,Cc,rfl,T,X⟩:=C.tr _ _ e2
  have O:(if qRo f v=true then qDe ps (kJ f v) else none)=some v':=e3
  by_cases hk:qRo f v=true
  ·replace O:=(c7 hk).symm.trans O
   unfold qRo at hk
   simp only [d8,fQ,j4] at hk
   obtain ⟨m,hn,hl⟩:=L.loc
   obtain ⟨_,c,hm,ac⟩:=hl x (.str v) hv
   obtain ⟨t,rfl,a5,au⟩:=ac.inv_str
   have U:(kJ f v).length=v.length:=by
    show (v.cps.toList.map f).toArray.size=v.cps.size
    rw [n7,k0,h9]
   have a6:ev cx.toCx (.glob D) Z=.ok (.top (.ref d)) Z:=by
    show (match cx.gl D with | some v=>Rs.ok v Z | Option.none=>.bad)=_
    rw [e1]
   refine mT (fN ?_ (kA rfl ..))
   have a1:methodCallForm ([iO D p1].length+([]:List nJ).length) (backTo r (starEach [iO D p1] env)) (backToKw r (keywordEach [] env))=true:=rfl
   have ab:methodCallPos true (.Name x J) env ap r=pure r:=by unfold methodCallPos; simp [h5]
   show wpAny P.M A (do
    let ov ← attributeBase (.Name x J) "translate" env (eval (.Name x J) env)
    standAt ap.atName
    methodCall (.Name x J) "translate" ap r env ov ([iO D p1].length+([]:List nJ).length) (backTo r (starEach [iO D p1] env)) (backToKw r (keywordEach [] env))) _ _ s
   rw [show attributeBase (.Name x J) "translate" env (eval (.Name x J) env)=eval (.Name x J) env from rfl]
   refine d3 (pG (fV L.kind hx hn hm (d3 (eE ?_))) hd)
   unfold methodCall
   rw [a1]
   refine d3 (l8 (qIl ?_))
   refine d3 (v6 ab ?_)
   refine kS rfl ?_
   refine mV (j0 (Jg W Z s I L (by rw [a6]; nofun)) (λ c a8 ⟨u,a0,aB,e,a9,hu⟩=>?_) (λ e s' h=>h.elim)) rfl
   rw [a6] at e
   cases e
   obtain rfl:=hu.inv_top
   refine wpAny_items_nil ⟨λ E Q hq=>d9 (hq _),?_⟩
   have go:∀ t' k,zJp (kJ f v) { a8 with toks:=k }->wpAny P.M A (storeName env x (.str (kJ f v) t')) (λ z aH=>wpAny P.M A (execs l env) (PostF P fr env W Z s (ex b cx (Z.set x (.str v')))) NoE aH) NoE { a8 with toks:=k }:=by
    intro t' k hp
    have st:=a9.trans (Step.toks a9.inv a9.loc k)
    refine qFu F st.inv st.loc hx (.str _ _ (by rw [U]; exact a5) hk.2) λ s' af a4=>?_
    have Y:=st.trans af
    refine zEn F hx h1.1 hr Y.inv Y.loc ?_ ?_ O λ s'' aa=>?_
    ·show (wY x _ Z.loc).lookup x=_
     rw [zB,c7 rfl]
    ·rcases hp with hp | hp
     ·exact .inl hp
     ·exact .inr (m0 hp a4)
    ·have V:=qFy (Y.trans aa)
     exact j0 (Jb _ _ _ V.inv V.loc B) (λ c s' h=>h.after V) λ e s' h=>h.elim
   refine qOv T (X.keeps a9.inv.keep) hk.1 a5 (λ hz=>?_) λ hz k a4=>?_
   ·have e0:kJ f v=v:=by
     obtain ⟨c⟩:=v
     have:c = #[]:=w9 hz
     subst this
     rfl
    have g:=go t a8.toks (.inl (by rw [U]; exact hz))
    rw [e0] at g
    exact g
   ·exact go k (k+1) (.inr (lJ _))
  ·exact zN1 ((d0 hk).symm.trans O)
end
end Mine.Lake
namespace Mine.Lake
open PySem PySem.W PyProof.Rows
section
variable {P:Par} {fr:Ln} {A:n6} {env:Env} {W W':Wd} {Z Z':St} {s s':d6} {cx:Sx}
set_option tactic.hygienic true in
theorem zJe (I:Inv P fr W Z.toHp s) (L:Loc P env W Z s.heap) {a b:V} {Y U:g9} (ha:VR W Z.nxt a Y) (S:VR W Z.nxt b U) (T:(qFl a b).st Z≠.bad) :
  wpAny P.M A (inplaceOp .Add Y U) (Post P fr env W Z s ((qFl a b).st Z)) NoE s:=by
 have B:qFl a b≠.bad:=λ q=>T (by rw [q]; rfl)
 cases a with
 | int x =>
  obtain ⟨y,e2⟩:=qP (show (qU b).elim Ov.bad _≠.bad from B)
  obtain rfl:=qK e2
  obtain ⟨_,rfl⟩:=ha.inv_int
  obtain ⟨_,rfl⟩:=S.inv_int
  exact wpAny_iadd_int (qM rfl (Step.toks I L _) (.int ..))
 | str x =>
  obtain ⟨y,e2⟩:=qP (show (qQ b).elim Ov.bad _≠.bad from B)
  obtain rfl:=qI e2
  have hx:=ha.strLe
  have hy:=S.strLe
  by_cases D:x.length+y.length<=g0
  ·have e:qFl (.str x) (.str y)=.ok (.str (x++y)):=c7 D
   rw [e]
   obtain ⟨t,rfl,_,J⟩:=ha.inv_str
   obtain ⟨u,rfl,_,O⟩:=S.inv_str
   refine PySem.P.iadd_str ?_
   split
   ·rename_i h; exact qM rfl (Step.refl I L) (by rw [qFt h]; exact .str _ _ hy O)
   ·split
    ·rename_i h; exact qM rfl (Step.refl I L) (by rw [qFs h]; exact .str _ _ hx J)
    ·have X:(x++y).length<=g0:=by show (x.cps++y.cps).size<=_; rw [gX]; exact D
     exact ⟨X,qM rfl (Step.toks I L _) (.str _ _ X (kP J O))⟩
  ·exact f8 (d0 D) B
 | _=>exact f8 rfl B
set_option tactic.hygienic true in
theorem qXi {sc:Scope} {x:Str} {e:X} {v:Expr} {p pos:Pos} (h3:sc.names.lookup x=some .local) (h4:Ok e sc (.e v)):xH P (.aug x e) sc (.s (.AugAssign (.Name x p) .Add v pos)):=by
 intro cx C fr A env F S
 have hk:=S.loc x h3
 intro W Z s I L B
 have D:ex (.aug x e) cx Z=(ev cx.toCx (.var x) Z).bind λ u aS=>(ev cx.toCx e aS).bind λ v a0=>((qFl u v).st a0).bind λ r a7=>.ok .next (a7.set x r):=rfl
 rw [D] at B ⊢
 have Jx:OkE P fr A env (loadName env x) (ev cx.toCx (.var x)):=λ W Z s I L B=>by
  have D:ev cx.toCx (.var x) Z=(match Z.loc.lookup x with | some v=>.ok v Z | Option.none=>.bad):=rfl
  rw [D] at B ⊢
  split at B
  ·rename_i v hv
   obtain ⟨m,hn,T⟩:=L.loc
   obtain ⟨_,c,V,hr⟩:=T x v hv
   exact fV L.kind hk hn V (qM rfl (Step.refl I L) hr)
  ·exact f8 rfl B
 refine wpAny_AugAssign_Name (qMg Jx (sound C.base h4 fr A env F.toFm S).1 I L B (λ e s' h=>h) λ aE a7 aH u w cu cw aL J hu hw=>?_)
 rw [aL] at B ⊢
 refine j0 (zJe J.inv J.loc hu hw (Rs.bind_ne B)) (λ c aK ⟨r,aG,Y,U,O,hr⟩=>?_) (λ e s' h=>h.elim)
 rw [Rs.bind_ok U] at B ⊢
 exact zY F O.inv O.loc hk hr λ aV aN=>⟨_,_,Y,rfl,(J.trans O).trans aN,.next⟩
theorem qBd {c:Cx} {t:Tgt} {x:Str} {elt it cond:X} {y:Str} {Z:St}:((ev c (.comp elt y it cond) Z).bind λ u a0=>kD (t.put a0 x u))=(ev c (.comp elt y it cond) Z).bind λ u a0=>match u with | .list xs=>kD (t.put (Keep.froze.st xs a0) x (Keep.froze.val xs a0)) | _=>.bad:=by
 cases B:ev c (.comp elt y it cond) Z with
 | ok u a0=>obtain ⟨xs,rfl⟩:=qUv B; rfl
 | bad=>rfl
section
variable {sc cs:Scope} {elt it cond:X} {y:Str} {e i:Expr} {ifs:List Expr} {x:Str} {p q zp lp:Pos} (hi:Ok it sc (.e i)) (h2:Ok elt cs (.e e)) (h3:Ok cond cs (.ofCond ifs)) (h4:kQ y sc cs=true) (h5:kY i=false)
include hi h2 h3 h4 h5
theorem qSj (B:sc.names.lookup x=some .local):xH P (.asg x (.comp elt y it cond)) sc (.s (.Assign [.Name x q] (.ListComp e [⟨.Name y zp,i,ifs,0⟩] cs lp) p)) :=
 λ cx C fr A env F S W Z s I L u=>qBe C F S .froze .loc hi h2 h3 h4 h5 (S.loc x B) I L _ (qBd (c:=cx.toCx) (t:=.loc) (x:=x) (elt:=elt) (it:=it) (cond:=cond) (y:=y) (Z:=Z)) u
theorem qMo (B:sc.names.lookup x=some .cell):xH P (.asgC x (.comp elt y it cond)) sc (.s (.Assign [.Name x q] (.ListComp e [⟨.Name y zp,i,ifs,0⟩] cs lp) p)) :=
 λ cx C fr A env F S W Z s I L u=>qBe C F S .froze .cel hi h2 h3 h4 h5 (S.cell x B) I L _ (qBd (c:=cx.toCx) (t:=.cel) (x:=x) (elt:=elt) (it:=it) (cond:=cond) (y:=y) (Z:=Z)) u
end
set_option tactic.hygienic true in
theorem qMq {sc:Scope} {x y:Str} {e:X} {U aJ q p r:Pos} {k:Nat} {g:Expr} {as:List Expr} {V:List nJ} (h1:sc.names.lookup x=some .cell) (h2:sc.names.lookup y=some .local) (h:Ok e sc (.e (.Call g as V r))) :
  xH P (.asg2C x y e) sc (.s (.Assign [.Tuple [.Name x U,.Name y aJ] k q] (.Call g as V r) p)):=λ cx C fr A env F S W Z s I L B=>by
 have a4:ex (.asg2C x y e) cx Z=(ev cx.toCx e Z).bind λ v a0=>jS v λ a b=>kD ((a0.setC x a).map λ a7=>a7.set y b):=rfl
 rw [a4] at B ⊢
 refine Assign_Tuple (zU (sound C.base h fr A env F.toFm S).1 I L B (λ e s' h=>h) λ u c aB a0 a8 aF O hv=>?_) (by unfold swapsWithSole; rfl) rfl
 rw [Rs.bind_ok aF] at B
 have hb:=Rs.bind_ok (f:=λ v a0=>jS v λ a b=>kD ((a0.setC x a).map λ a7=>a7.set y b)) aF
 refine bC λ J=>?_
 obtain ⟨a,b,hp,hr⟩:=qHs B
 refine J ?_
 rw [hr] at B
 cases hc:a0.setC x a with
 | none=>rw [hc] at B; exact f8 rfl B
 | some a7 =>
  have a2:kD ((a0.setC x a).map λ a7=>a7.set y b)=.ok .next (a7.set y b):=by rw [hc]; rfl
  have hn:a7.nxt=a0.nxt:=by obtain ⟨_,_,_,_,rfl⟩:=qDa hc; rfl
  refine bC λ J=>?_
  obtain ⟨t,ca,Y,rfl,ha,a5,hU⟩:=qHt F.handled O.inv O.loc hv hp
  refine J ?_
  rw [assign_Tuple]
  refine d3 (eE ?_)
  unfold unpack
  refine d3 (l8 (hU λ aH D=>?_))
  show wpAny P.M A (do holding [Y] (assign (.Name x U) env ca); (do holding [] (assign (.Name y aJ) env Y); pure ())) _ _ _
  refine d3 (l8 (t8 (qFv F D.inv D.loc hc (S.cell x h1) ha λ aK T=>?_)))
  refine d3 (l8 (t8 (zY F T.inv T.loc (S.loc y h2) (by rw [hn]; exact a5) λ aV aN=>?_)))
  exact d9 ⟨_,_,aB,(hb.trans hr).trans a2,((O.trans D).trans T).trans aN,.next⟩
end
section
variable {P:Par} {fr:Ln} {A:n6} {env:Env} {W W':Wd} {Z Z':St} {s s':d6} {cx:Sx}
theorem qWq {st:S} {sc:Scope} {u:Pt} (h:TieS st sc u):xH P st sc u:=by
 induction h with
 | brk=>exact qXh
 | expr a b=>exact qSf a b
 | asg a b c=>exact qXj a b c
 | own a b=>exact qXe a b
 | asgC a b c=>exact qSk a b c
 | asgK a b c d e f=>exact qSj b c d e f a
 | asgCK a b c d e f=>exact qMo b c d e f a
 | aug a b=>exact qXi a b
 | asg2C a b c=>exact qMq a b c
 | setA a b c=>exact qSb a b c
 | ret a=>exact qXd a
 | ite a _ _ b c=>exact qXg a b c
 | loop a _ _ b c=>exact qSe a b c
 | each a b _ c d=>exact qSg a b d c
 | assert a=>exact qKa a
 | nil=>exact qXf
 | seq _ _ a b=>exact qXc a b
 | asg2 a b c=>exact qSl a b c
 | asg2s a b c d e=>exact qMp a b c d e
 | cont=>exact qSh
 | ret0=>exact qSc
 | asgs a b c _=>exact qSi a b c
 | ownA a b c=>exact qSd a b c
 | sq a b c d _ e=>exact zDv a b c d e
end
noncomputable def Hp.add (H:Hp) (o:O):Hp:={ obj:=λ k=>if k=H.nxt then some o else H.obj k,nxt:=H.nxt+1 }
noncomputable def qN (bv:List (Str×V)):List (Str×s9)->Hp->List (Str×Nat)->Hp×List (Str×Nat)
 | [],H,c=>(H,c)
 | (x,k)::r,H,c=>if k == .cell then qN bv r (H.add (.cell (bv.lookup x))) ((x,H.nxt)::c) else qN bv r H c
theorem qEj {bv:List (Str×V)} {x:Str} {k:s9} {r:List (Str×s9)} {H:Hp} {c:List (Str×Nat)}:qN bv ((x,k)::r) H c=if k == .cell then qN bv r (H.add (.cell (bv.lookup x))) ((x,H.nxt)::c) else qN bv r H c:=rfl
def wT (sc:Scope) (ps:List Str):Bool:=sc.kind == .function && !sc.isCoroutine && !sc.isGenerator && keyed sc.names && sc.names.all (λ p=>p.2 != .free) && distinct ps && ps.all (λ x=>sc.names.lookup x == some .local || sc.names.lookup x == some .cell)
noncomputable def qHo (f:Fl) (Z:St):Rs V:=match f with
 | .ret v=>.ok v Z
 | .next=>.ok .none Z
 | _=>.bad
def entryC (sc:Scope) (bv:List (Str×V)) (H:Hp):St:={ toHp:=(qN bv sc.names H []).1,loc:=bv.filter (λ p=>sc.names.lookup p.1 == some .local),cel:=(qN bv sc.names H []).2 }
noncomputable def entry (bv:List (Str×V)) (H:Hp):St:={ toHp:=H,loc:=bv }
noncomputable def qCd (sc:Scope) (ps:List Str):Bool:=sc.names.all (λ p=>!(p.2 == .cell)) && ps.all λ x=>sc.names.lookup x == some .local
theorem qIt {sc:Scope} {ps:List Str} {args:List V} {H:Hp} (h:qCd sc ps=true):entryC sc (ps.zip args) H=entry (ps.zip args) H:=by
 unfold qCd at h
 rw [d8] at h
 have u:∀ (l:List (Str×s9)),l.all (λ p=>!(p.2 == .cell))=true->∀ c,qN (ps.zip args) l H c=(H,c):=by
  intro l
  induction l with
  | nil=>intro _ c; rfl
  | cons p l B =>
   intro h c
   rw [pK,d8] at h
   obtain ⟨x,k⟩:=p
   have hk:(k == NameKind.cell)=false:=by
    cases q:(k == NameKind.cell) with
    | false=>rfl
    | true=>rw [show ((x,k):Str×s9).2=k from rfl,q] at h; exact f8 h.1 (by decide)
   show (if (k == NameKind.cell)=true then _ else qN (ps.zip args) l H c)=_
   rw [d0 (by rw [hk]; decide)]
   exact B h.2 c
 have h2:(ps.zip args).filter (λ p=>sc.names.lookup p.1 == some .local)=ps.zip args:=List.filter_eq_self.mpr λ p hp=>List.all_eq_true.mp h.2 _ (nF (a:=p.1) (b:=p.2) hp).1
 unfold entryC entry
 rw [u _ h.1,h2]
def jZ (sc:Scope) (ps:List Str) (b:S) (cx:Sx) (args:List V) (H:Hp):Rs V :=
 if args.length=ps.length then (ex b cx (entryC sc (ps.zip args) H)).bind qHo else .bad
def Ro (W:Wd) (n:Nat):Option V->Option g9->Prop
 | some v,some c=>VR W n v c
 | none,none=>True
 | _,_=>False
theorem wI {W:Wd} {n:Nat} (x:Str):∀ (ps:List Str) {args:List V} {cs:Lv},VRs W n args cs->Ro W n ((ps.zip args).lookup x) ((ps.zip cs).lookup x)
 | [],_,_,_=>trivial
 | p::ps,_,_,.nil=>trivial
 | p::ps,_,_,.cons h r=>by
  unfold List.zip List.zipWith i8
  cases x == p with
  | true=>exact h
  | false=>exact wI x ps r
theorem xK {α:Type} {x:Str}:∀ {ps:List Str} {cs:List α},ps.all (λ y=>y != x)=true->(ps.zip cs).lookup x=none
 | [],_,_=>by simp
 | p::ps,[],_=>by simp
 | p::ps,c::cs,h=>by
  simp only [pK,d8,iP,ne_eq] at h
  simp only [iR,i8]
  rw [show (x == p)=false from by simpa using λ q=>h.1 q.symm]
  exact xK h.2
theorem qEl {u:Str->Option s9} {x:Str}:∀ {ps:List Str} {cs:Lv} {m:Str->Option g9},distinct ps=true->bindL u (ps.zip cs) m x=if u x=some .local then ((ps.zip cs).lookup x).or (m x) else m x
 | [],cs,m,_=>by simp [bindL]
 | p::ps,[],m,_=>by simp [bindL]
 | p::ps,c::cs,m,h=>by
  simp only [distinct,d8] at h
  simp only [iR,bindL]
  rw [qEl h.2]
  simp only [i8]
  by_cases hx:x=p
  ·subst hx
   rw [xK h.1]
   by_cases hk:u x=some .local
   ·simp [hk]
   ·simp [hk]
  ·rw [show (x == p)=false from by simpa using hx]
   by_cases hk:u x=some .local
   ·simp only [hk,pO]
    congr 1
    by_cases hp:u p=some .local
    ·simp [hp,hx]
    ·simp [hp]
   ·simp only [hk,oH]
    by_cases hp:u p=some .local
    ·simp [hp,hx]
    ·simp [hp]
theorem qEm {u:Str->Option s9} {x:Str} (hk:u x≠some .local):∀ {ps:List Str} {cs:Lv} {m:Str->Option g9},distinct ps=true->bindC u (ps.zip cs) m x=((ps.zip cs).lookup x).or (m x)
 | [],cs,m,_=>by simp [bindC]
 | p::ps,[],m,_=>by simp [bindC]
 | p::ps,c::cs,m,h=>by
  simp only [distinct,d8] at h
  simp only [iR,bindC]
  rw [qEm hk h.2]
  simp only [i8]
  by_cases hx:x=p
  ·subst hx
   rw [xK h.1]
   simp [hk]
  ·rw [show (x == p)=false from by simpa using hx]
   by_cases hp:u p=some .local
   ·simp [hp]
   ·simp [hp,hx]
theorem jM {x:Str} {k:s9}:∀ {names:List (Str×s9)},keyed names=true->(x,k)∈names->names.lookup x=some k
 | (y,k')::r,h,hm=>by
  simp only [keyed,d8] at h
  rcases List.mem_cons.mp hm with q | q
  ·cases q; simp [i8]
  ·have u:x≠y:=by
    have:=List.all_eq_true.mp h.1 _ q
    simpa using this
   simp only [i8]
   rw [show (x == y)=false from by simpa using u]
   exact jM h.2 q
theorem zJ {x:Str} {k:s9}:∀ {names:List (Str×s9)},names.lookup x=some k->(x,k)∈names
 | [],h=>zN1 h
 | (y,k')::r,h=>by
  simp only [i8] at h
  cases u:x == y with
  | true=>rw [u] at h; cases h; rw [show x=y from by simpa using u]; exact .head _
  | false=>rw [u] at h; exact .tail _ (zJ h)
theorem vE {x:Str}:∀ {names:List (Str×s9)} {n:Nat} {acc:List (Str×Addr)},((acc.lookup x).isSome=true\/(x,NameKind.cell)∈names)->((cellsFrom n names acc).lookup x).isSome=true
 | [],n,acc,h=>by
  rcases h with h | h
  ·exact h
  ·cases h
 | (y,k)::r,n,acc,h=>by
  unfold cellsFrom
  by_cases hk:(k == NameKind.cell)=true
  ·rw [c7 hk]
   refine vE ?_
   simp only [i8]
   cases u:x == y with
   | true=>exact .inl rfl
   | false =>
    rcases h with h | h
    ·exact .inl h
    ·rcases List.mem_cons.mp h with q | q
     ·cases q; simp at u
     ·exact .inr q
  ·rw [d0 hk]
   refine vE ?_
   rcases h with h | h
   ·exact .inl h
   ·rcases List.mem_cons.mp h with q | q
    ·cases q; exact f8 rfl hk
    ·exact .inr q
section
variable {P:Par} {fr:Ln} {A:n6} {env:Env} {W W':Wd} {Z Z':St} {s s':d6}
theorem qEh {bv:List (Str×V)} {J:Str->Option g9} {all:List (Str×Addr)} {L:Nat} (u:∀ x c,(x,c)∈all->s'.heap.IsCell c (J x)) (B:∀ x,Ro W Z.nxt (bv.lookup x) (J x)\/∀ c,(x,c) ∉ all) :
  ∀ (names:List (Str×s9)) (n:Nat) (acc:List (Str×Addr)) (cel:List (Str×Nat)) (H:Hp) (W':Wd),(∀ p∈cellsFrom n names acc,p∈all)->Step P fr env W Z s W' { Z with toHp:=H } s'->s.heap.get? L=none->L < n->s.heap.objs.size<=n ->
   Out P fr W' H.nxt L->(∀ a,n<=a->Out P fr W' H.nxt a)->(∀ x k,cel.lookup x=some k->k < H.nxt/\acc.lookup x=some (W'.ρ k)) ->
   ∃ W'',Step P fr env W Z s W'' { Z with toHp:=(qN bv names H cel).1 } s'/\Out P fr W'' (qN bv names H cel).1.nxt L/\∀ x k,(qN bv names H cel).2.lookup x=some k->k < (qN bv names H cel).1.nxt/\(cellsFrom n names acc).lookup x=some (W''.ρ k)
 | [],n,acc,cel,H,W',_,st,_,_,_,oL,_,hc=>⟨W',st,oL,hc⟩
 | (x,k)::r,n,acc,cel,H,W',ha,st,hL,hn,hsz,oL,oa,hc=>by
  unfold cellsFrom at ha ⊢
  rw [qEj]
  by_cases hk:(k == NameKind.cell)=true
  ·rw [c7 hk] at ha ⊢
   rw [c7 hk]
   have X:∀ (names:List (Str×s9)) (m:Nat) (ac:List (Str×Addr)),∀ p∈ac,p∈cellsFrom m names ac:=by
    intro names
    induction names with
    | nil=>exact λ z z z h=>h
    | cons hd tl ih =>
     intro m ac p h
     obtain ⟨y,ky⟩:=hd
     unfold cellsFrom
     split
     ·exact ih _ _ _ (.tail _ h)
     ·exact ih _ _ _ h
   have hm:(x,n)∈all:=ha _ (X _ _ _ _ (.head _))
   obtain ⟨ob,e1,D⟩:=u x n hm
   have O:s.heap.get? n=none:=dB hsz
   have U:=W'.add_le H.nxt n
   have a3:OR (W'.add H.nxt n) (H.nxt+1) (.cell (bv.lookup x)) ob:=by
    rcases B x with q | q
    ·revert q D
     cases bv.lookup x with
     | none=>cases J x with
      | none=>exact λ D z=>.nocell D
      | some _=>exact λ z q=>q.elim
     | some v=>cases J x with
      | none=>exact λ z q=>q.elim
      | some c=>exact λ D q=>.cell D ((VR.mono st.nx.wle st.nx.le q).mono U (dY _))
    ·exact f8 hm (q n)
   have aA:=Step.addLate (o:=.cell (bv.lookup x)) st O e1 (oa n (d7 _)) a3
   have S:(W'.add H.nxt n).ρ H.nxt=n:=by show (if H.nxt=H.nxt then _ else _)=_; rw [c7 rfl]
   have T:∀ a,a≠n->Out P fr W' H.nxt a->Out P fr (W'.add H.nxt n) (H.nxt+1) a:=λ a a0 o=>⟨o.notB,o.notFr,o.notFz,λ j hj=>by
    rcases Nat.lt_succ_iff_lt_or_eq.mp hj with h | h
    ·rw [U.ρ j h]; exact o.notOwn j h
    ·subst h; rw [S]; exact eO a0⟩
   refine qEh u B r (n+1) ((x,n)::acc) ((x,H.nxt)::cel) (H.add (.cell (bv.lookup x))) (W'.add H.nxt n) ha aA hL (by exact j6 hn) (by exact j6 hsz) (T L (r9 hn) oL) (λ a h=>T a (by exact v9 h) (oa a (by exact n1 h))) λ y j hj=>?_
   simp only [i8] at hj ⊢
   cases Y:y == x with
   | true=>rw [Y] at hj; cases hj; exact ⟨n5 _,by rw [S]⟩
   | false =>
    rw [Y] at hj
    obtain ⟨p,q⟩:=hc y j hj
    exact ⟨k9 p,by rw [U.ρ j p]; exact q⟩
  ·rw [d0 hk] at ha ⊢
   rw [d0 hk]
   exact qEh u B r n acc cel H W' ha st hL hn hsz oL oa hc
end
structure FnOk (P:Par) (f:Addr) (fd:FuncData) (ps:List Str) (body:List Stmt):Prop where
 there:∃ o,P.B.get? f=some o/\o.data=.func fd
 lim:P.B.NoLimit
 code:P.B.CodeRec fd.code fd.qualname
 body:fd.body=.stmts body
 clo:fd.closure=[]
 glob:fd.globals=r8
 bns:fd.builtins=aY
 bind:∀ s:d6,(∀ b o,P.B.get? b=some o->s.heap.get? b=some o)->∀ cargs:Lv,cargs.length=ps.length->BindsTo s fd ⟨cargs,[]⟩ (ps.zip cargs)
 shape:wT fd.scope ps=true
section
variable {P:Par} {fr:Ln} {A:n6} {env:Env} {W W':Wd} {Z Z':St} {s s':d6} {cx:Sx}
def zOq (P:Par) (lv:Nat) (sc:Scope) (body:List Stmt) (u:St) (r:Rs Fl):Prop:=∀ fr A env W s,FmS P lv fr A env->ScOk sc env->Inv P fr W u.toHp s->Loc P env W u s.heap ->
 wpAny P.M A (execs body env) (PostF P fr env W u s r) NoE s
set_option backward.match.sparseCases true in
set_option tactic.hygienic true in
theorem qVa {lv:Nat} {f:Addr} {B:FuncData} {ps:List Str} {body:List Stmt} (K:FnOk P f B ps body) {r:Rs Fl} {args:List V} {cargs:Lv}
  (hb:zOq P lv B.scope body (entryC B.scope (ps.zip args) Z.toHp) r) (F:Fm P (lv+1) fr A env) (I:Inv P fr W Z.toHp s) (L:Loc P env W Z s.heap) (ha:VRs W Z.nxt args cargs) (ar:args.length=ps.length) (hr:∀ fl Z',r=.ok fl Z'->qHo fl Z'≠.bad) :
  codeAny P.M A (.call (.ref f) ⟨cargs,[]⟩) (λ x s'=>match x with | .ok (.ret v)=>Post P fr env W Z s ((r.bind qHo).lift Z) v s' | .ok _=>False | .error e=>NoE e s') s:=by
 obtain ⟨o,ho,hd⟩:=K.there
 have b6:=I.keep f o ho
 have ak:=K.shape
 simp only [wT,d8,j8,dO] at ak
 obtain ⟨⟨⟨⟨⟨⟨k1,k2⟩,k3⟩,k4⟩,k5⟩,k6⟩,k7⟩:=ak
 have ah:cargs.length=ps.length:=ha.length.trans ar
 have ae:A.depth < iE:=by have:=F.depth; exact m_b6 this
 have af:∀ n,∀ x∈ps.zip cargs,B.scope.names.lookup x.1=some .local\/(B.scope.names.lookup x.1=some .cell/\((cellsFrom n B.scope.names []).lookup x.1).isSome=true):=λ n x az=>by
  have hp:x.1∈ps:=(nF (a:=x.1) (b:=x.2) az).1
  have:=List.all_eq_true.mp k7 _ hp
  simp only [lS,j8] at this
  rcases this with q | q
  ·exact .inl q
  ·exact .inr ⟨q,vE (.inr (zJ q))⟩
 refine codeAny_call_function ae b6 hd k2 k3 K.body (K.code.keeps I.keep) (K.bind s I.keep cargs ah _ _ _ _ ?_)
 rw [K.clo]
 refine wpAny_newFunctionEnv_cells k1 (af _) λ ba he a8 x=>?_
 subst he
 refine ⟨(K.lim.keeps I.keep).keeps x.toInCall.keep,codeAny_func ?_⟩
 obtain ⟨aD,tk,es,bS⟩:=x.done
 generalize aj:s.heap.objs.size=LL at x
 have a4:s.heap.get? LL=none:=aj ▸ kH _
 generalize J:newEnv B.scope LL B.globals (cellsFrom (LL+1) B.scope.names []) (B.qualname++".<locals>.") (some f) B.code none B.builtins=cenv at x
 have c1:cenv.scope=B.scope:=by rw [← J]; rfl
 have c2:cenv.locals=LL:=by rw [← J]; rfl
 have c3:cenv.cells=cellsFrom (LL+1) B.scope.names []:=by rw [← J]; rfl
 have c4:cenv.globals=r8:=by rw [← J]; exact K.glob
 have c5:cenv.builtins=aY:=by rw [← J]; exact K.bns
 have c6:cenv.frame=some LL:=by rw [← J]; rfl
 have S:∀ y,cenv.kindOf y=B.scope.names.lookup y:=λ y=>by unfold Env.kindOf; rw [c1]
 have g1:a8.gens=s.gens:=by rw [es]
 have g2:a8.os=s.os:=by rw [es]
 have cQ:∀ b o,s.heap.get? b=some o->a8.heap.get? b=some o:=λ b o e=>by rw [es]; exact bS b o e
 have b7:Step P fr env W Z s W Z a8:=Step.grow I L cQ g1 g2
 have X:∀ (names:List (Str×s9)) (n:Nat) (acc:List (Str×Addr)) (y:Str) (c:Addr),(y,c)∈cellsFrom n names acc->(y,c)∈acc\/(y,NameKind.cell)∈names:=by
  intro names
  induction names with
  | nil=>exact λ w w w w h=>.inl h
  | cons O tl T =>
   intro n acc y c h
   obtain ⟨z,kz⟩:=O
   unfold cellsFrom at h
   split at h
   ·rename_i U
    rcases T _ _ _ _ h with q | q
    ·rcases List.mem_cons.mp q with q | q
     ·cases q; right; rw [show kz=NameKind.cell from by simpa using U]; exact .head _
     ·exact .inl q
    ·exact .inr (.tail _ q)
   ·rcases T _ _ _ _ h with q | q
    ·exact .inl q
    ·exact .inr (.tail _ q)
 have a6:∀ (names:List (Str×s9)) (n:Nat) (acc:List (Str×Addr)),keyed names=true->(acc.map (·.1)).Nodup->(∀ p∈acc,∀ q∈names,q.1≠p.1)->((cellsFrom n names acc).map (·.1)).Nodup:=by
  intro names
  induction names with
  | nil=>exact λ w w w h w=>h
  | cons O tl T =>
   intro n acc Y al ac
   obtain ⟨z,kz⟩:=O
   simp only [keyed,d8] at Y
   unfold cellsFrom
   split
   ·refine T _ _ Y.2 ?_ λ p hp q D=>?_
    ·simp only [v4,List.nodup_cons]
     refine ⟨λ hm=>?_,al⟩
     obtain ⟨p,hp,e⟩:=List.mem_map.mp hm
     exact ac p hp _ (.head _) e.symm
    ·rcases List.mem_cons.mp hp with e | e
     ·subst e; have:=List.all_eq_true.mp Y.1 q D; simpa using this
     ·exact ac p e q (.tail _ D)
   ·exact T _ _ Y.2 al λ p hp q D=>ac p hp q (.tail _ D)
 have aa:∀ y c,(y,c)∈cellsFrom (LL+1) B.scope.names []->a8.heap.IsCell c (bindC cenv.kindOf (ps.zip cargs) (λ w=>none) y):=λ y c hm=>by
  refine x.cell y c ?_
  rw [c3]
  exact lookup_of_mem_nodup (a6 _ _ _ k4 (by simp) λ p hp=>by cases hp) hm
 have au:∀ y,Ro W Z.nxt ((ps.zip args).lookup y) (bindC cenv.kindOf (ps.zip cargs) (λ w=>none) y)\/∀ c,(y,c) ∉ cellsFrom (LL+1) B.scope.names []:=λ y=>by
  by_cases hy:(y,NameKind.cell)∈B.scope.names
  ·left
   have b2:B.scope.names.lookup y=some .cell:=jM k4 hy
   rw [qEm (by rw [S,b2]; intro q; cases q) k6]
   have:=wI y ps ha
   cases h1:(ps.zip cargs).lookup y with
   | none=>rw [h1] at this; simpa using this
   | some c=>rw [h1] at this; simpa using this
  ·right
   intro c hm
   rcases X _ _ _ _ _ hm with q | q
   ·cases q
   ·exact hy q
 obtain ⟨aB,a9,oL,an⟩:=qEh (L:=LL) (bv:=ps.zip args) aa au B.scope.names (LL+1) [] [] Z.toHp W (λ p hp=>hp) b7 a4 (n5 _) (by exact Nat.le.step (v1 aj)) (Out.new I a4)
  (λ a h=>Out.new I (dB (by lia))) (λ y k h=>by cases h)
 obtain ⟨oF,c8,c0,f1,f2,f3⟩:=x.toInCall.ns
 rw [c2] at f1
 have bU:Inv P (LL::fr) aB (entryC B.scope (ps.zip args) Z.toHp).toHp a8:=Inv.under (Z:={ Z with toHp:=(qN (ps.zip args) B.scope.names Z.toHp []).1 }) a9.inv oL f1 λ vs q=>by rw [f2] at q; cases q
 have bV:Loc P cenv aB (entryC B.scope (ps.zip args) Z.toHp) a8.heap:=by
  refine ⟨by rw [c1]; exact k1,c4,c5,⟨_,x.toInCall.ns,λ y v h=>?_⟩,λ y k h=>?_,λ k q h=>by cases h⟩
  ·have hf:∀ (l:List (Str×V)),(l.filter (λ p=>B.scope.names.lookup p.1 == some .local)).lookup y=some v->B.scope.names.lookup y=some .local/\l.lookup y=some v:=by
    intro l
    induction l with
    | nil=>intro h; cases h
    | cons O tl T =>
     intro h
     obtain ⟨z,u⟩:=O
     simp only [oK] at h
     cases U:(B.scope.names.lookup z == some NameKind.local) with
     | true =>
      rw [U] at h
      simp only [i8] at h ⊢
      cases D:y == z with
      | true =>
       rw [D] at h
       have e:y=z:=by simpa using D
       subst e
       exact ⟨by simpa using U,h⟩
      | false=>rw [D] at h; exact T h
     | false =>
      rw [U] at h
      obtain ⟨p1,p2⟩:=T h
      refine ⟨p1,?_⟩
      simp only [i8]
      cases D:y == z with
      | true =>
       have e:y=z:=by simpa using D
       subst e
       rw [p1] at U; simp at U
      | false=>exact p2
   obtain ⟨p1,p2⟩:=hf _ h
   have hr:=wI y ps ha
   rw [p2] at hr
   refine ⟨by rw [S]; exact p1,?_⟩
   cases h1:(ps.zip cargs).lookup y with
   | none=>rw [h1] at hr; exact hr.elim
   | some c =>
    rw [h1] at hr
    refine ⟨c,?_,VR.mono a9.nx.wle a9.nx.le hr⟩
    rw [qEl k6,S,p1,h1]
    rfl
  ·obtain ⟨p,q⟩:=an y k h
   exact ⟨p,λ w=>by rw [c3]; exact q⟩
 have bW:ScOk B.scope cenv:=by
  refine ⟨λ y h=>by rw [S]; exact h,λ y h=>by rw [S]; exact h,λ y h=>by rw [S]; exact h,λ y h=>by rw [S]; exact h,λ y h=>?_⟩
  rw [S] at h
  rw [c3]
  rcases h with h | h
  ·have:=vE (n:=LL+1) (acc:=[]) (.inr (zJ h))
   exact Option.isSome_iff_exists.mp this
  ·have:=List.all_eq_true.mp k5 _ (zJ h)
   simp at this
 obtain ⟨lf,ai,b9⟩:=F.frames
 have bX:FmS P lv (LL::fr) (A.deeper cenv) cenv:=by
  refine ⟨⟨by rw [c2]; exact .head _,F.handled,by have:=F.units; show A.units+3+_+_ < _; exact m_b7 this,by have:=F.depth; show A.depth+1+_+_ < _; exact m_b8 this,cenv::lf,by show A.frames.map _=_; rw [ai]; rfl,λ e he=>?_⟩,⟨lf,by show A.frames.map _=_; rw [ai]; rfl⟩,by rw [c2]; exact c6⟩
  rcases List.mem_cons.mp he with q | q
  ·subst q; exact ⟨by rw [c1,k1]; decide,LL,c6,.head _⟩
  ·obtain ⟨a1,Lx,a2,a3⟩:=b9 e q; exact ⟨a1,Lx,a2,.tail _ a3⟩
 have ax:LL≠env.locals:=λ q=>by
  have:=(I.frB _ F.hL).2
  obtain ⟨o',e',_⟩:=this
  rw [← q,a4] at e'; cases e'
 refine j0 (hb (LL::fr) _ cenv aB _ bX bW bU bV) (λ fl aH ⟨v,a7,aE,aL,aA,hv⟩=>?_) (λ e aH h=>h.elim)
 have am:=Step.inner (a0:=entryC B.scope (ps.zip args) Z.toHp) a9 F.hL a4 c2 ax rfl aA
 have ab:=hr _ _ aL
 subst aL
 cases hv with
 | next=>exact ⟨_,_,aE,rfl,am,.none⟩
 | ret hv=>exact ⟨_,_,aE,rfl,am,hv⟩
 | brk=>exact f8 rfl ab
 | cont=>exact f8 rfl ab
theorem qTn {f:Addr} {B:FuncData} {ps:List Str} {body:List Stmt} (K:FnOk P f B ps body) (I:Inv P fr W Z.toHp s):jT P.M A (.ref f) s:=λ E Q u=>by
 obtain ⟨o,D,hd⟩:=K.there
 unfold keeperOf
 refine d3 (fA (I.keep f o D) ?_)
 rw [hd]
 exact d9 (u _)
theorem zLc {sc:Scope} {ps:List Str} {b:S} {args:List V} {H:Hp} (B:(jZ sc ps b cx args H).lift Z≠.bad):args.length=ps.length/\((ex b cx (entryC sc (ps.zip args) H)).bind qHo)≠.bad:=by
 have u:args.length=ps.length:=by
  refine gG λ q=>B ?_
  unfold jZ; rw [d0 q]; rfl
 refine ⟨u,λ q=>B ?_⟩
 unfold jZ; rw [c7 u,q]; rfl
set_option backward.match.sparseCases true in
theorem zBs {f:Addr} {u:FuncData} {ps:List Str} {body:List Stmt} (K:FnOk P f u ps body) (C:SxOk P cx) {b:S} (J:TieS b u.scope (.l body))
  (F:Fm P (cx.lvl+1) fr A env) (I:Inv P fr W Z.toHp s) (L:Loc P env W Z s.heap) {args:List V} {cargs:Lv} (ha:VRs W Z.nxt args cargs) (D:(jZ u.scope ps b cx args Z.toHp).lift Z≠.bad) :
  codeAny P.M A (.call (.ref f) ⟨cargs,[]⟩) (λ r s'=>match r with | .ok (.ret v)=>Post P fr env W Z s ((jZ u.scope ps b cx args Z.toHp).lift Z) v s' | .ok _=>False | .error e=>NoE e s') s:=by
 obtain ⟨B,hn⟩:=zLc D
 have e:jZ u.scope ps b cx args Z.toHp=(ex b cx (entryC u.scope (ps.zip args) Z.toHp)).bind qHo:=c7 B
 rw [e]
 refine codeAny_mono (qVa K (r:=ex b cx (entryC u.scope (ps.zip args) Z.toHp)) (λ fr A env W s F S I L=>qWq J cx C fr A env F S W _ s I L (Rs.bind_ne hn)) F I L ha B (λ O Z' q=>by rw [q] at hn; exact hn)) λ r s' h=>?_
 match r with
 | .ok (.ret v)=>exact h
 | .ok .next=>exact h
 | .ok .brk=>exact h
 | .ok .cont=>exact h
 | .error e=>exact h
end
def jY (ps:List Str) (x:X) (cs:List (Str×Nat)) (cx:Cx) (args:List V) (H:Hp):Rs V :=
 if args.length=ps.length then ev cx x { toHp:=H,loc:=ps.zip args,cel:=cs } else .bad
theorem qDp {x:Str}:∀ {ps:List Str} {cs:Lv},distinct ps=true->(ps.zip cs).reverse.lookup x=(ps.zip cs).lookup x
 | [],_,_=>by simp
 | p::ps,[],_=>by simp
 | p::ps,c::cs,h=>by
  simp only [distinct,d8] at h
  rw [iR,mH,List.lookup_append,qDp h.2]
  cases u:x == p with
  | true =>
   have e:x=p:=by simpa using u
   subst e
   rw [xK h.1]
   simp [i8]
  | false =>
   simp only [i8,u]
   cases (ps.zip cs).lookup x <;> rfl
section
variable {P:Par} {fr:Ln} {A:n6} {env:Env} {W W':Wd} {Z Z':St} {s s':d6} {cx:Cx} {n:Nat}
theorem zBt (C:CxOk P cx) (ah:P.B.NoLimit) (F:Fm P (cx.lvl+1) fr A env) (I:Inv P fr W Z.toHp s) (L:Loc P env W Z s.heap) {ps:List Str} {x:X} {cs:List (Str×Nat)} {cf:g9} (hv:VR W Z.nxt (.clo ps x cs) cf)
  {args:List V} {cargs:Lv} (ha:VRs W Z.nxt args cargs) (T:(jY ps x cs cx args Z.toHp).lift Z≠.bad) :
  jT P.M A cf s/\wpAny P.M A (call cf cargs []) (Post P fr env W Z s ((jY ps x cs cx args Z.toHp).lift Z)) NoE s:=by
 refine bC λ O=>?_
 obtain ⟨f,o,D,rfl,aj,hd,K⟩:=hv.dat
 refine O ?_
 have ac:=(I.frz _ _ aj).1
 refine ⟨λ E Q hq=>?_,iN ?_⟩
 ·unfold keeperOf
  refine d3 (fA ac ?_)
  rw [hd]
  exact d9 (hq _)
 have a4:args.length=ps.length:=by
  refine gG λ q=>T ?_
  unfold jY; rw [d0 q]; rfl
 have ad:jY ps x cs cx args Z.toHp=ev cx x { toHp:=Z.toHp,loc:=ps.zip args,cel:=cs }:=by unfold jY; rw [c7 a4]
 rw [ad] at T ⊢
 have aa:cargs.length=ps.length:=ha.length.trans a4
 have ab:=K.shape
 simp only [wB,d8,j8,dO] at ab
 refine bC λ O=>?_
 obtain ⟨⟨⟨⟨⟨⟨k1,k2⟩,k3⟩,k4⟩,k6⟩,k7⟩,k5⟩:=ab
 obtain ⟨body,a8,ap⟩:=K.body
 obtain ⟨c,oc,vs,t,e1,e2,e3,e4⟩:=K.code
 refine O ?_
 have a6:A.depth < iE:=by have:=F.depth; exact m_b6 this
 have u:∀ y∈D.scope.names,y.2≠.cell:=λ y hy q=>by
  have:=List.all_eq_true.mp k5 _ hy; rw [q] at this; exact f8 this (by decide)
 refine kla_callFunE a6 ac hd k2 k3 a8 ⟨c,oc,vs,t,e1,(I.frz _ _ e2).1,e3,e4⟩ ?_
 rw [K.args cargs aa]
 refine d9 (wpAny_newFunctionEnv u (λ y hy=>?_) (λ aD U Y=>⟨?_,?_⟩) k1)
 ·have hp:y.1∈ps:=(nF (a:=y.1) (b:=y.2) hy).1
  have:=List.all_eq_true.mp k7 _ hp
  simpa using this
 ·exact (ah.keeps I.keep).fresh _ Y
 have bS:∀ b o,s.heap.get? b=some o->aD.get? b=some o:=λ b o e=>Y.extBut b o (r9 (gD e)) (j9 _ e)
 generalize ao:s.heap.objs.size=LL at U Y
 have a5:s.heap.get? LL=none:=ao ▸ kH _
 generalize J:newEnv D.scope LL D.globals D.closure (D.qualname++".<locals>.") (some f) D.code none D.builtins=cenv
 have c1:cenv.scope=D.scope:=by rw [← J]; rfl
 have c2:cenv.locals=LL:=by rw [← J]; rfl
 have c3:cenv.cells=D.closure:=by rw [← J]; rfl
 have c4:cenv.globals=r8:=by rw [← J]; exact K.glob
 have c5:cenv.builtins=aY:=by rw [← J]; exact K.bns
 have c6:cenv.frame=some LL:=by rw [← J]; rfl
 have S:∀ y,cenv.kindOf y=D.scope.names.lookup y:=λ y=>by unfold Env.kindOf; rw [c1]
 have b7:Step P fr env W Z s W Z { s with heap:=aD,toks:=s.toks+(ps.zip cargs).length }:=Step.grow I L bS rfl rfl
 refine bC λ O=>?_
 obtain ⟨oF,bl,bk,f1,f2,f3⟩:=id U
 have oL:Out P fr W Z.nxt LL:=Out.new I a5
 have bU:Inv P (LL::fr) W ({ toHp:=Z.toHp,loc:=ps.zip args,cel:=cs }:St).toHp { s with heap:=aD,toks:=s.toks+(ps.zip cargs).length }:=Inv.under (Z:=Z) b7.inv oL f1 λ vs q=>by rw [f2] at q; cases q
 have bV:Loc P cenv W { toHp:=Z.toHp,loc:=ps.zip args,cel:=cs } aD:=by
  refine ⟨by rw [c1]; exact k1,c4,c5,⟨_,by rw [c2]; exact U,λ y v h=>?_⟩,λ y k h=>?_,λ k q h=>zN1 h⟩
  ·have hr:=wI y ps ha
   have h':(ps.zip args).lookup y=some v:=h
   rw [h'] at hr
   have hp:y∈ps:=(nF (qS h')).1
   have hl:=List.all_eq_true.mp k7 _ hp
   refine ⟨by rw [S]; simpa using hl,?_⟩
   cases h1:(ps.zip cargs).lookup y with
   | none=>rw [h1] at hr; exact hr.elim
   | some c=>rw [h1] at hr; exact ⟨c,by rw [qDp k6]; exact h1,hr⟩
  ·refine bC λ O=>?_
   obtain ⟨p,q⟩:=K.cel y k h
   refine O ?_
   refine ⟨p,λ hk=>?_⟩
   rw [S] at hk
   rw [c3]
   rcases hk with hk | hk
   ·exact f8 rfl (u _ (qS hk))
   ·exact q hk
 have bW:ScOk D.scope cenv:=by
  refine ⟨λ y h=>by rw [S]; exact h,λ y h=>by rw [S]; exact h,λ y h=>by rw [S]; exact h,λ y h=>by rw [S]; exact h,λ y h=>?_⟩
  rw [S] at h
  rw [c3]
  rcases h with h | h
  ·exact f8 rfl (u _ (qS h))
  ·exact K.free y h
 obtain ⟨lf,ak,as⟩:=F.frames
 refine O ?_
 have bX:Fm P cx.lvl (LL::fr) (A.deeper cenv) cenv:=by
  refine ⟨by rw [c2]; exact .head _,F.handled,by have:=F.units; show A.units+3+_+_ < _; exact m_b7 this,by have:=F.depth; show A.depth+1+_+_ < _; exact m_b8 this,cenv::lf,by show A.frames.map _=_; rw [ak]; rfl,λ e he=>?_⟩
  rcases List.mem_cons.mp he with q | q
  ·subst q; exact ⟨by rw [c1,k1]; decide,LL,c6,.head _⟩
  ·obtain ⟨a1,Lx,a2,a3⟩:=as e q; exact ⟨a1,Lx,a2,.tail _ a3⟩
 have cR:ev cx x { toHp:=Z.toHp,loc:=ps.zip args,cel:=cs }≠.bad:=by intro q; rw [q] at T; exact T rfl
 have al:LL≠env.locals:=λ q=>by
  refine bC λ O=>?_
  obtain ⟨o',e',_⟩:=(I.frB _ F.hL).2
  refine O ?_
  rw [← q,a5] at e'; cases e'
 refine kla_codeExpr (j0 ((sound C ap (LL::fr) _ cenv bX bW).1 W _ _ bU bV cR) (λ v aH ⟨r,a7,aE,aL,aA,hr⟩=>?_) (λ e aH h=>h.elim))
 have ar:=Step.inner (a0:={ toHp:=Z.toHp,loc:=ps.zip args,cel:=cs }) b7 F.hL a5 c2 al rfl aA
 exact ⟨r,_,aE,by rw [aL]; rfl,ar,hr⟩
theorem FR.find {x:Str}:∀ {fs:List (Str×V)} {es:List dH},FR W n fs es->Ro W n (fs.lookup x) ((es.find? (·.key.isStr x)).map (·.val))/\es.any (·.refKey)=false
 | _,_,.nil=>⟨trivial,rfl⟩
 | _,_,.cons (x:=y) (t:=t) hv r=>by
  obtain ⟨B,h2⟩:=FR.find (x:=x) r
  simp only [i8,List.find?]
  have e:(Value.str y t).isStr x=(y == x):=rfl
  rw [e]
  cases u:x == y with
  | true =>
   have:y=x:=by simpa using (by simpa using u:x=y).symm
   subst this
   simp only [iQ,mR]
   exact ⟨hv,by simpa [pT] using h2⟩
  | false =>
   have:(y == x)=false:=by simpa using λ q=>(by simpa using u:x≠y) q.symm
   rw [this]
   exact ⟨B,by simpa [pT] using h2⟩
theorem FR.look {x:Str} {fs:List (Str×V)} {es:List dH} {e:Nat} (h:FR W n fs es):∃ r,lookIn x (dictOf es e)=some r/\Ro W n (fs.lookup x) r:=by
 obtain ⟨u,h2⟩:=FR.find (x:=x) h
 unfold lookIn
 dsimp only
 cases B:es.find? (·.key.isStr x) with
 | none=>rw [B] at u; dsimp only; rw [d0 (by rw [h2]; decide)]; exact ⟨none,rfl,u⟩
 | some D=>rw [B] at u; exact ⟨some D.val,rfl,u⟩
theorem FR.put {x:Str} {v:V} {c:g9} {hs:Int} {t:Tok} {f:Option dH->dH} (f0:f none=⟨hs,.str x t,c⟩) (f1:∀ e,f (some e)={ e with val:=c }) (hv:VR W n v c):∀ {fs:List (Str×V)} {es:List dH},FR W n fs es ->
  ∀ {B:List dH} {b:Bool},nsPutIn x.cps.size x.cps.toList f es=(B,b)->FR W n (setF x v fs) B/\B.length<=es.length+1
 | _,_,.nil,B,b,h=>by
  unfold nsPutIn at h
  cases h
  rw [f0]
  exact ⟨.cons hv .nil,by simp⟩
 | _,_,.cons (x:=y) (t:=u) (fs:=fs) (es:=es) hy r,B,b,h=>by
  have e:(Value.str y u).isStrByCps x.cps.size x.cps.toList=(y == x):=Value.isStrByCps_eq _ _
  unfold nsPutIn at h
  rw [qHk]
  dsimp only at h
  rw [e] at h
  cases D:x == y with
  | true =>
   have:y=x:=by simpa using (by simpa using D:x=y).symm
   subst this
   replace h:=(c7 (by simp)).symm.trans h
   rw [c7 rfl]
   cases h
   rw [f1]
   exact ⟨.cons hv r,by simp⟩
  | false =>
   have:(y == x)=false:=by simpa using λ q=>(by simpa using D:x≠y) q.symm
   rw [this,zX1] at h
   rw [zX1]
   cases hp:nsPutIn x.cps.size x.cps.toList f es with
   | mk J L =>
    rw [hp] at h
    cases h
    obtain ⟨e2,e3⟩:=FR.put f0 f1 hv r hp
    exact ⟨.cons hy e2,by simp; exact e3⟩
set_option tactic.hygienic true in
theorem FR.putName {x:Str} {v:V} {c:g9} {hs:Int} {t:Tok} {e:Nat} {fs:List (Str×V)} {es:List dH} (hv:VR W n v c) (h:FR W n fs es) :
  ∃ u B,Obj.putName x hs (.str x t) c (dictOf es e)=dictOf u B/\FR W n (setF x v fs) u/\u.length<=es.length+1:=by
 unfold Obj.putName
 dsimp only
 split
 ·rename_i u hp
  obtain ⟨e2,e3⟩:=FR.put rfl (λ q=>rfl) hv h hp
  exact ⟨_,_,rfl,e2,e3⟩
 ·rename_i u hp
  obtain ⟨e2,e3⟩:=FR.put rfl (λ q=>rfl) hv h hp
  exact ⟨_,_,rfl,e2,e3⟩
theorem FR.length:∀ {fs:List (Str×V)} {es:List dH},FR W n fs es->es.length=fs.length
 | _,_,.nil=>rfl
 | _,_,.cons _ r=>by simp [FR.length r]
end
structure ClsOk (P:Par) (K:Frag) (C:Addr):Prop where
 inn:K.In P.B
 makes:makesIn K C=true
 ga:findIn K (.ref C) "__getattribute__" = some (some (.builtin "object.__getattribute__"))
 gt:findIn K (.ref C) "__getattr__" = some none
 sa:findIn K (.ref C) "__setattr__" = some (some (.builtin "object.__setattr__"))
 plain:plainOver K C=true
 dict:hasDictIn K C=true
section
variable {P:Par} {fr:Ln} {A:n6} {env:Env} {W W':Wd} {Z Z':St} {s s':d6} {cx:Sx} {K:Frag} {C:Addr}
theorem qIi (I:Inv P fr W Z.toHp s) {k d:Nat} {fs:List (Str×V)} (hk:Z.obj k=some (.inst C d)) (hd:Z.obj d=some (.dict fs)) :
  ∃ es e,FR W Z.nxt fs es/\d < Z.nxt/\k < Z.nxt/\s.heap.get? (W.ρ d)=some (dictOf es e)/\InstAt s.heap (W.ρ k) (instObj C (W.ρ d)) C (some (dictOf es e)):=by
 refine bC λ B=>?_
 obtain ⟨p,c,u,h2⟩:=I.obj k _ hk
 obtain ⟨q,c',h3,h4⟩:=I.obj d _ hd
 refine B ?_
 cases h2
 cases h4 with
 | dict h5=>exact ⟨_,_,h5,q,p,h3,u,rfl,rfl,h3⟩
theorem qTz {Q:Pv} {E:Pv} (X:ClsOk P K C) (I:Inv P fr W Z.toHp s) {k d:Nat} {fs:List (Str×V)} (hk:Z.obj k=some (.inst C d)) (hd:Z.obj d=some (.dict fs)) {f:Str} {v:V} (B:findIn K (.ref C) f=some none)
  (hv:fs.lookup f=some v) (J:∀ c,VR W Z.nxt v c->handedIn c=true) (u:∀ c t,VR W Z.nxt v c->Q c { s with toks:=t }):wpAny P.M A (getAttr (.ref (W.ρ k)) f true) Q E s:=by
 refine bC λ D=>?_
 obtain ⟨es,e,hr,_,_,O,L⟩:=qIi I hk hd
 obtain ⟨r,h2,h3⟩:=hr.look (x:=f) (e:=e)
 refine D ?_
 rw [hv] at h3
 cases r with
 | none=>exact h3.elim
 | some c=>exact get_value (X.inn.keeps I.keep) L X.ga (findObj_own X.dict B rfl h2) (J c h3) (u c _ h3)
theorem qZv {Q:g9×Lv->d6->Prop} {E:Pv} {J:Sem Bool} (X:ClsOk P K C) (I:Inv P fr W Z.toHp s) {k d:Nat} {fs:List (Str×V)} (hk:Z.obj k=some (.inst C d)) (hd:Z.obj d=some (.dict fs)) {f:Str} {g:Addr} (B:findIn K (.ref C) f=some (some (.ref g)))
  (hg:typeIn K (.ref g)=some (.type "function")) (hv:fs.lookup f=none) (u:Q (.ref g,[.ref (W.ρ k)]) s):wpAny P.M A (getMethod (.ref (W.ρ k)) f J) Q E s:=by
 refine bC λ D=>?_
 obtain ⟨es,e,hr,_,_,O,L⟩:=qIi I hk hd
 obtain ⟨r,h2,h3⟩:=hr.look (x:=f) (e:=e)
 refine D ?_
 rw [hv] at h3
 cases r with
 | some _=>exact h3.elim
 | none=>exact method_fn (X.inn.keeps I.keep) L X.ga X.gt B hg (by show fU (·.isSome) (lookIn f (dictOf es e))=_; rw [h2]; rfl) u
theorem qSo {Q:Unit->d6->Prop} {E:Pv} (X:ClsOk P K C) (I:Inv P fr W Z.toHp s) (L:Loc P env W Z s.heap) (hL:env.locals∈fr) {k d:Nat} {fs:List (Str×V)} (hk:Z.obj k=some (.inst C d)) (hd:Z.obj d=some (.dict fs)) {f:Str} {v:V} {c:g9} (Y:findIn K (.ref C) f=some none)
  (hl:fs.length<=100) (hv:VR W Z.nxt v c) (U:∀ s',Step P fr env W Z s W (Z.put d (.dict (setF f v fs))) s'->Q () s'):wpAny P.M A (setAttr (.ref (W.ρ k)) f c) Q E s:=by
 refine bC λ u=>?_
 obtain ⟨es,e,hr,S,a4,B,D⟩:=qIi I hk hd
 refine u ?_
 refine set_plain (X.inn.keeps I.keep) D X.sa ?_
 have I':=I.toks (s.toks+1)
 refine osa_open (s:={ s with toks:=s.toks+1 }) (r:=none) (X.inn.keeps I.keep) D X.plain (by unfold takerIn; rw [Y]; rfl) λ b=>?_
 refine bC λ u=>?_
 obtain ⟨cd,hc,J⟩:=any_some X.dict
 obtain ⟨O,e',p1,p2,p3⟩:=hr.putName (x:=f) (hs:=oM P.w.params f) (t:=s.toks+1) (e:=e) hv
 obtain ⟨hx,a5,hn,-⟩:=D
 refine u ?_
 refine d3 (d9 (d3 (d3 (wpAny_loadPart hx (d3 ((looks_clsIn (X.inn.keeps I'.keep) hc).here ?_))))))
 rw [J]
 refine d9 (a:=some (W.ρ d)) (d3 (d9 (d3 ?_)))
 unfold nsSet
 refine d3 (d3 (wpAny_askSetting (d9 (d3 (wpAny_mkText (d3 (wpAny_loadPart B ?_)))))))
 dsimp only
 have T:=(FR.find (x:=f) hr).2
 have c0:(!es.toArray.any (·.key.isStr f) && es.toArray.any (·.refKey))=false:=by
  rw [← Array.any_toList,← Array.any_toList,List.toList_toArray,T,iD]
 rw [aRefKeyMayBeTheName_at,c0]
 refine wpAny_updatePart B ?_
 have hu:(s.heap.update (W.ρ d) (Obj.putName f (oM P.w.params f) (.str f (s.toks+1)) c)).get? (W.ρ d)=some (dictOf O e'):=by
  have:=iI (Obj.putName f (oM P.w.params f) (.str f (s.toks+1)) c) B (by rw [p1]; rfl)
  rw [p1] at this; exact this
 refine d3 (wpAny_lookBehind hu (pastItsLine_dict (by rw [n7,sizeLine_eq]; have:=hr.length; exact m_b9 hl p3 this)) ?_)
 refine d9 ?_
 exact U _ (Step.put I L S hL (.dict (setF f v fs)) (.dict p2) (λ b o hb e=>((gJ ..).2 b hb).trans e) hu rfl rfl)
end
set_option backward.match.sparseCases true in
noncomputable def qKk (C:Addr) (u:List V->Hp->Rs V) (args:List V) (H:Hp):Rs V :=
 match u (.ref (H.nxt+1)::args) ((H.add (.dict [])).add (.inst C H.nxt)) with
 | .ok .none Z=>.ok (.ref (H.nxt+1)) Z
 | _=>.bad
section
variable {P:Par} {fr:Ln} {A:n6} {env:Env} {W W':Wd} {Z Z':St} {s s':d6} {cx:Sx} {K:Frag} {C:Addr}
theorem Fm.under {lv u:Nat} {C:Addr} {as:Lv} (F:Fm P lv fr A env) (h:u+1<=lv):Fm P u fr (A.under (.builtin "type.__call__" ⟨.ref C::as,[]⟩)) env:=by
 have e1:(A.under (.builtin "type.__call__" ⟨.ref C::as,[]⟩)).depth=A.depth+1:=rfl
 have e2:(A.under (.builtin "type.__call__" ⟨.ref C::as,[]⟩)).units=A.units+1:=rfl
 have e3:(A.under (.builtin "type.__call__" ⟨.ref C::as,[]⟩)).frames=A.frames:=rfl
 refine ⟨F.hL,F.handled,?_,?_,by rw [e3]; exact F.frames⟩
 ·have:=F.units; rw [e2]; exact m_c0 h this
 ·have:=F.depth; rw [e1]; exact m_c1 h this
set_option backward.match.sparseCases true in
theorem make_inst {lv:Nat} {B:List V->Hp->Rs V} {fI:Addr} (X:ClsOk P K C) (hi:findIn K (.ref C) "__init__" = some (some (.ref fI))) (hf:typeIn K (.ref fI)=some (.type "function"))
    (hc:∀ fr A env,Fm P lv fr A env->∀ W Z s,Inv P fr W Z.toHp s->Loc P env W Z s.heap->∀ args cargs,VRs W Z.nxt args cargs->(B args Z.toHp).lift Z≠.bad ->
      codeAny P.M A (.call (.ref fI) ⟨cargs,[]⟩) (λ r s'=>match r with | .ok (.ret v)=>Post P fr env W Z s ((B args Z.toHp).lift Z) v s' | .ok _=>False | .error e=>NoE e s') s)
    (F:Fm P (lv+1) fr A env) (I:Inv P fr W Z.toHp s) (L:Loc P env W Z s.heap) {args:List V} {cargs:Lv} (ha:VRs W Z.nxt args cargs) (J:(qKk C B args Z.toHp).lift Z≠.bad) :
    jT P.M A (.ref C) s/\wpAny P.M A (call (.ref C) cargs []) (Post P fr env W Z s ((qKk C B args Z.toHp).lift Z)) NoE s:=by
  have Y:=makes_of (M:=P.M) (X.inn.keeps I.keep) X.makes
  obtain ⟨⟨oc,od,cd,sl,hC,e1,e2,e4⟩,ad,base,self,top,call,ae⟩:=Y
  refine ⟨λ E Q S=>?_,?_⟩
  · unfold keeperOf
    refine d3 (fA hC ?_)
    dsimp only
    obtain ⟨u,g,d,t,os⟩:=s
    refine d3 (call.at ?_)
    exact d9 (S _)
  obtain ⟨u,g,d,t,os⟩:=s
  have Y:=makes_of (M:=P.M) (X.inn.keeps I.keep) X.makes
  refine iN (make_core Y (looks_findIn (X.inn.keeps I.keep) hi) (λ self=>bind_fn (X.inn.keeps I.keep) self hf) (.inl rfl) ?_)
  have U:=Step.add (s:=⟨u,g,d,t,os⟩) (s':=⟨u.push emptyDict,g,d,t,os⟩) I L (.dict []) emptyDict (.dict (es:=[]) .nil) rfl rfl rfl
  have cS:(W.add Z.nxt u.objs.size).ρ Z.nxt=u.objs.size:=by show (if Z.nxt=Z.nxt then _ else _)=_; rw [c7 rfl]
  have a3:OR ((W.add Z.nxt u.objs.size).add (Z.nxt+1) (u.push emptyDict).objs.size) (Z.nxt+1+1) (.inst C Z.nxt) (instObj C u.objs.size):=by
    have hl:=(W.add Z.nxt u.objs.size).add_le (Z.nxt+1) (u.push emptyDict).objs.size
    have T:=OR.inst (W:=(W.add Z.nxt u.objs.size).add (Z.nxt+1) (u.push emptyDict).objs.size) (n:=Z.nxt+1+1) (C:=C) (d:=Z.nxt) (by lia)
    rw [hl.ρ Z.nxt (n5 _),cS] at T
    exact T
  have aA:=Step.add (s:=⟨u.push emptyDict,g,d,t,os⟩) (s':=⟨(u.push emptyDict).push (instObj C u.objs.size),g,d,t,os⟩) U.inv U.loc (.inst C Z.nxt) (instObj C u.objs.size) a3 rfl rfl rfl
  have st:Step P fr env W Z ⟨u,g,d,t,os⟩ ((W.add Z.nxt u.objs.size).add (Z.nxt+1) (u.push emptyDict).objs.size) ((Z.add (.dict [])).add (.inst C Z.nxt)) ⟨(u.push emptyDict).push (instObj C u.objs.size),g,d,t,os⟩:=U.trans aA
  generalize hW:((W.add Z.nxt u.objs.size).add (Z.nxt+1) (u.push emptyDict).objs.size)=aE at st
  have O:aE.ρ (Z.nxt+1)=u.objs.size+1:=by
    rw [← hW]; show (if Z.nxt+1=Z.nxt+1 then _ else _)=_; rw [c7 rfl,iC]
  have a2:VRs aE (Z.nxt+1+1) (.ref (Z.nxt+1)::args) (.ref (u.objs.size+1)::cargs):=by
    refine .cons ?_ (ha.mono st.nx.wle st.nx.le)
    rw [← O]
    exact .ref (by simp)
  have D:(qKk C B args Z.toHp)=(match B (.ref (Z.nxt+1)::args) ((Z.add (.dict [])).add (.inst C Z.nxt)).toHp with
    | .ok .none Z'=>.ok (.ref (Z.nxt+1)) Z'
      | _=>.bad):=rfl
  have a0:(B (.ref (Z.nxt+1)::args) ((Z.add (.dict [])).add (.inst C Z.nxt)).toHp).lift ((Z.add (.dict [])).add (.inst C Z.nxt))≠.bad:=by
    intro q
    refine J ?_
    rw [D]
    cases S:B (.ref (Z.nxt+1)::args) ((Z.add (.dict [])).add (.inst C Z.nxt)).toHp with
    | ok v Z'=>rw [S] at q; cases q
    | bad=>rfl
  refine codeAny_mono (hc fr _ env (F.under (d7 _)) aE _ _ st.inv st.loc _ _ a2 a0) λ r s' z=>?_
  cases S:B (.ref (Z.nxt+1)::args) ((Z.add (.dict [])).add (.inst C Z.nxt)).toHp with
  | ok v Z' =>
    rw [S] at z D
    cases r with
    | error e=>exact z.elim
    | ok fl=>cases fl with
     | ret cv =>
      obtain ⟨v',aG,aM,q,aC,hv⟩:=z
      cases q
      cases v with
      | none =>
        cases hv
        refine ⟨rfl,_,_,aM,by rw [D]; rfl,st.trans aC,?_⟩
        have:=(VR.ref (W:=aE) (n:=Z.nxt+1+1) (k:=Z.nxt+1) (by simp)).mono aC.nx.wle aC.nx.le
        rw [O] at this
        exact this
      | _=>rw [D] at J; exact f8 rfl J
     | _=>exact z.elim
  | bad=>rw [S] at D; rw [D] at J; exact f8 rfl J
end
noncomputable def okH (v:V) (H:Hp):Rs V:=.ok v { toHp:=H,loc:=[] }
def qIe (v:V) (H:Hp):Rs V:=match qQ v with
 | some x=>okH (.int x.length) H
 | none=>(qV H v).elim .bad λ xs=>okH (.int xs.length) H
def qAe (args:List V) (H:Hp):Rs V:=match args with
 | [a]=>(qU a).elim .bad λ n=>if Builtin.Range.small 0 n 1=true then okH (.rng 0 n 1) H else .bad
 | [a,b]=>(qU a).elim .bad λ a=>(qU b).elim .bad λ b=>if Builtin.Range.small a b 1=true then okH (.rng a b 1) H else .bad
 | [a,b,c]=>(qU a).elim .bad λ a=>(qU b).elim .bad λ b=>(qU c).elim .bad λ c=>if c≠0/\Builtin.divisionGoesByPylong (b - a) c=false/\Builtin.Range.small a b c=true then okH (.rng a b c) H else .bad
 | _=>.bad
def xD (v x:V) (H:Hp):Rs V:=(qFe H v).elim .bad λ q=>if q.2.length+1<=g0 then okH .none { H with obj:=λ j=>if j=q.1 then some (.list (q.2++[x])) else H.obj j } else .bad
theorem qEn {H:Hp} {k:Nat} {x:V} {xs:List V} (h:H.obj k=some (.list xs)) (u:xs.length+1<=g0):xD (.ref k) x H=okH .none { H with obj:=λ j=>if j=k then some (.list (xs++[x])) else H.obj j }:=by
 show ((asO (H.obj k)).map λ xs=>(k,xs)).elim Rs.bad _=_
 rw [h]
 exact c7 u
theorem qGz {H:Hp} {v x:V} (h:xD v x H≠.bad):∃ k xs,v=.ref k/\H.obj k=some (.list xs)/\xs.length+1<=g0:=by
 obtain ⟨⟨k,xs⟩,e⟩:=qP h
 obtain ⟨rfl,u⟩:=wQ e
 refine ⟨k,xs,rfl,u,gG λ q=>h ?_⟩
 show (qFe H (.ref k)).elim Rs.bad _=_
 rw [e]
 exact d0 q
section
variable {P:Par} {fr:Ln} {A:n6} {env:Env} {W W':Wd} {Z Z':St} {s s':d6} {cx:Sx}
theorem qFf {M:Model} {i:String}:jT M A (.builtin i) s:=λ E Q u=>d9 (u _)
theorem qOb {M:Model} {i:String}:jT M A (.type i) s:=λ E Q u=>d9 (u _)
theorem vP {r:Rs V} {v:V} {c:g9} {t:Nat} (I:Inv P fr W Z.toHp s) (L:Loc P env W Z s.heap) (e:r=okH v Z.toHp) (hv:VR W Z.nxt v c):Post P fr env W Z s (r.lift Z) c { s with toks:=t } :=
 ⟨v,Z,W,by rw [e]; rfl,Step.toks I L t,hv⟩
theorem uJ {r:Rs V} (h:r.lift Z≠.bad):r≠.bad:=λ q=>h (by rw [q]; rfl)
theorem qZd {H:Hp} {v:V} {xs:List V} (hs:qQ v=none) (h:qV H v=some xs):qIe v H=okH (.int xs.length) H:=by
 unfold qIe; rw [hs,h]; rfl
theorem zNm (I:Inv P fr W Z.toHp s) (L:Loc P env W Z s.heap) {v:V} {c:g9} (hv:VR W Z.nxt v c) (B:(qIe v Z.toHp).lift Z≠.bad) :
  wpAny P.M A (call (.builtin "len") [c] []) (Post P fr env W Z s ((qIe v Z.toHp).lift Z)) NoE s:=by
 cases hs:qQ v with
 | some x =>
  obtain rfl:=qI hs
  obtain ⟨t,rfl,D,_⟩:=hv.inv_str
  exact len_str (by have:=vN; lia -abstractProof) (vP I L rfl (.int _ _))
 | none =>
  have u:(qV Z.toHp v).elim Rs.bad (λ xs=>okH (.int xs.length) Z.toHp)≠.bad:=λ q=>uJ B (by unfold qIe; rw [hs]; exact q)
  obtain ⟨xs,hx⟩:=qP u
  obtain ⟨a,items,rfl,D,hr,J⟩:=xL I hv hx
  refine Calls.call_len_list D (by have:=vN; lia -abstractProof) (vP I L (qZd hs hx) ?_)
  rw [← hr.length,h9]
  exact .int _ _
theorem qGp {o:Option Int} {f:Int->Rs V} {Z:St} (h:(o.elim .bad f).lift Z≠.bad):∃ a,o=some a:=by
 cases o with
 | none=>exact f8 rfl h
 | some a=>exact ⟨a,rfl⟩
theorem ifR {c:Prop} [Decidable c] {a:Rs V} {Z:St} (h:(if c then a else .bad).lift Z≠.bad):c:=by
 by_cases q:c
 ·exact q
 ·rw [d0 q] at h; exact f8 rfl h
theorem yM (I:Inv P fr W Z.toHp s) (L:Loc P env W Z s.heap) {a b c:Int} {t u v:Tok} (B:Builtin.Range.small a b c=true) {k:Nat}:Post P fr env W Z s ((okH (.rng a b c) Z.toHp).lift Z) (.ref s.heap.objs.size) { s with heap:=s.heap.push { cls:=.type "range", data:=.fields #[.int a t,.int b u,.int c v] },toks:=k } :=
 ⟨_,_,_,rfl,Step.freeze I L { cls:=.type "range", data:=.fields #[.int a t,.int b u,.int c v] } rfl rfl rfl rfl,.rng (by show (if _=_ then _ else _)=_; rw [c7 rfl]) B⟩
theorem range_ok (I:Inv P fr W Z.toHp s) (L:Loc P env W Z s.heap) {args:List V} {cargs:Lv} (ha:VRs W Z.nxt args cargs) (B:(qAe args Z.toHp).lift Z≠.bad) :
  wpAny P.M A (call (.type "range") cargs []) (Post P fr env W Z s ((qAe args Z.toHp).lift Z)) NoE s:=by
 cases ha with
 | nil=>exact f8 rfl B
 | cons J r =>
  cases r with
  | nil =>
   obtain ⟨n,e⟩:=qGp B
   obtain rfl:=qK e
   obtain ⟨t,rfl⟩:=J.inv_int
   have D:=ifR B
   show wpAny P.M A _ (Post P fr env W Z s ((if _ then _ else _:Rs V).lift Z)) NoE s
   rw [c7 D]
   exact call_range_1 (yM I L D)
  | cons h2 r =>
   cases r with
   | nil =>
    obtain ⟨a,e⟩:=qGp B
    obtain rfl:=qK e
    obtain ⟨b,e⟩:=qGp B
    obtain rfl:=qK e
    obtain ⟨t,rfl⟩:=J.inv_int
    obtain ⟨u,rfl⟩:=h2.inv_int
    have D:=ifR B
    show wpAny P.M A _ (Post P fr env W Z s ((if _ then _ else _:Rs V).lift Z)) NoE s
    rw [c7 D]
    exact call_range_2 (yM I L D)
   | cons h3 r =>
    cases r with
    | nil =>
     obtain ⟨a,e⟩:=qGp B
     obtain rfl:=qK e
     obtain ⟨b,e⟩:=qGp B
     obtain rfl:=qK e
     obtain ⟨c,e⟩:=qGp B
     obtain rfl:=qK e
     obtain ⟨t,rfl⟩:=J.inv_int
     obtain ⟨u,rfl⟩:=h2.inv_int
     obtain ⟨v,rfl⟩:=h3.inv_int
     have D:=ifR B
     show wpAny P.M A _ (Post P fr env W Z s ((if _ then _ else _:Rs V).lift Z)) NoE s
     rw [c7 D]
     exact call_range_3 D.1 (yM I L D.2.2) (.inl D.2.1)
    | cons _ _=>exact f8 rfl B
theorem qVi (I:Inv P fr W Z.toHp s) (L:Loc P env W Z s.heap) (hL:env.locals∈fr) {v x:V} {c d:g9} (hv:VR W Z.nxt v c) (hx:VR W Z.nxt x d) (u:(xD v x Z.toHp).lift Z≠.bad) :
  wpAny P.M A (call (.builtin "list.append") [c,d] []) (Post P fr env W Z s ((xD v x Z.toHp).lift Z)) NoE s:=by
 refine bC λ D=>?_
 obtain ⟨k,xs,rfl,B,J⟩:=qGz (λ q=>uJ u q)
 obtain ⟨rfl,hk⟩:=hv.inv_ref
 rw [qEn B J] at D
 obtain ⟨_,S,hg,hr⟩:=I.obj _ _ B
 obtain ⟨items,e,rfl,r,z⟩:=hr.inv_list
 refine D (nN mN ⟨_,hg,rfl⟩ mA (PySem.F.args_list_append_2 _ _) (list_append _ items e d z) ⟨hg,?_⟩)
 have hu:=IsL.update (n:=e) hg (λ xs=>xs.push d)
 refine ⟨_,Z.put k (.list (xs++[x])),W,rfl,Step.put I L hk hL (.list (xs++[x])) (.list (e:=_) ?_ ?_) (λ b o O e=>((gJ ..).2 b O).trans e) hu rfl rfl,.none⟩
 ·rw [mE]; exact r.append (.cons hx .nil)
 ·have:=r.length; rw [h9] at this; rw [size_push]; simp [J,this]
end
def hZ:List V->Option (List Str)
 | []=>some []
 | v::r=>(qQ v).bind λ x=>(hZ r).map (x::·)
noncomputable def kO (x:Str):Bool:=decide (x.length<=g0) && t5 x
def qLb (a b c:V) (H:Hp):Rs V:=(qQ a).elim .bad λ x=>(qQ b).elim .bad λ y=>(qU c).elim .bad λ i=>okH (.int (pU x y i)) H
def kT (x y:Str):Bool:=(y.length == 1) && decide ((mO x (eU x y 0 x.length (x.length+1)) y.length).length<=g0) && decide ((lN x y).length<=g0) && (lN x y).all kO
def yJ (a b:V) (H:Hp):Rs V:=(qQ a).elim .bad λ x=>(qQ b).elim .bad λ y=>if kT x y=true then okH (.list ((lN x y).map .str)) H else .bad
section
variable {P:Par} {fr:Ln} {A:n6} {env:Env} {W W':Wd} {Z Z':St} {s s':d6} {cx:Sx}
theorem zS {α:Type} {o:Option α} {f:α->Rs V} {Z:St} (h:(o.elim .bad f).lift Z≠.bad):∃ a,o=some a/\(f a).lift Z≠.bad:=by
 cases o with
 | none=>exact f8 rfl h
 | some a=>exact ⟨a,rfl,h⟩
theorem zIc (I:Inv P fr W Z.toHp s) (L:Loc P env W Z s.heap) {a b i:V} {c d e:g9} (ha:VR W Z.nxt a c) (B:VR W Z.nxt b d) (hi:VR W Z.nxt i e) (u:(qLb a b i Z.toHp).lift Z≠.bad) :
  wpAny P.M A (call (.builtin "str.find") [c,d,e] []) (Post P fr env W Z s ((qLb a b i Z.toHp).lift Z)) NoE s:=by
 unfold qLb at u ⊢
 obtain ⟨x,e1,u⟩:=zS u
 rw [e1]
 obtain ⟨y,e2,u⟩:=zS u
 rw [e2]
 obtain ⟨j,e3,u⟩:=zS u
 rw [e3]
 obtain rfl:=qI e1
 obtain rfl:=qI e2
 obtain rfl:=qK e3
 obtain ⟨_,rfl,_⟩:=ha.inv_str
 obtain ⟨_,rfl,_⟩:=B.inv_str
 obtain ⟨_,rfl⟩:=hi.inv_int
 exact SC.find3 (vP I L rfl (.int ..))
theorem qJx {W:Wd} {n:Nat}:∀ {xs:List V} {cs:Lv} {u:List Str},VRs W n xs cs->hZ xs=some u->∃ l:List (Str×Tok),cs=strValues l/\l.map (·.1)=u
 | [],_,u,h,e=>by
  obtain rfl:=h.inv_nil
  cases e; exact ⟨[],rfl,rfl⟩
 | x::r,_,u,h,e=>by
  obtain ⟨c,D,rfl,hx,hr⟩:=h.inv_cons
  obtain ⟨y,e1,e2⟩:=Option.bind_eq_some_iff.mp e
  obtain ⟨B,e3,rfl⟩:=Option.map_eq_some_iff.mp e2
  obtain rfl:=qI e1
  obtain ⟨t,rfl,_⟩:=hx.inv_str
  obtain ⟨l,rfl,rfl⟩:=qJx hr e3
  exact ⟨(y,t)::l,rfl,rfl⟩
theorem qFr {W:Wd} {n:Nat}:∀ {l:List (Str×Tok)},(l.map (·.1)).all kO=true->VRs W n ((l.map (·.1)).map .str) (strValues l)
 | [],_=>.nil
 | (x,t)::r,h=>by
  rw [v4,pK,d8] at h
  have u:=h.1
  unfold kO at u
  rw [d8,j4] at u
  exact .cons (.str x t u.1 u.2) (qFr h.2)
theorem qAf (I:Inv P fr W Z.toHp s) (L:Loc P env W Z s.heap) {u:List Str} {l:List (Str×Tok)} (O:l.map (·.1)=u) (D:u.all kO=true) (B:u.length<=g0) {k:Nat} :
  Post P fr env W Z s ((okH (.list (u.map .str)) Z.toHp).lift Z) (.ref s.heap.objs.size) { s with heap:=s.heap.push { cls:=.type "list", data:=.seq (strValues l).toArray },toks:=k }:=by
 subst O
 refine jK (items:=(strValues l).toArray) I L (qFr D) ?_ rfl rfl rfl
 have J:(strValues l).length=l.length:=k0 ..
 rw [n7,J]
 rw [k0] at B
 exact B
theorem qWn (I:Inv P fr W Z.toHp s) (L:Loc P env W Z s.heap) {a b:V} {c d:g9} (ha:VR W Z.nxt a c) (X:VR W Z.nxt b d) (B:(yJ a b Z.toHp).lift Z≠.bad) :
  wpAny P.M A (call (.builtin "str.split") [c,d] []) (Post P fr env W Z s ((yJ a b Z.toHp).lift Z)) NoE s:=by
 unfold yJ at B ⊢
 obtain ⟨x,e1,B⟩:=zS B
 rw [e1]
 obtain ⟨y,e2,B⟩:=zS B
 rw [e2]
 obtain rfl:=qI e1
 obtain rfl:=qI e2
 obtain ⟨t,rfl,hx,_⟩:=ha.inv_str
 obtain ⟨u,rfl,_⟩:=X.inv_str
 by_cases J:kT x y=true
 ·show wpAny _ _ _ (Post P fr env W Z s ((if _ then _ else _:Rs V).lift Z)) _ _
  rw [c7 J]
  unfold kT at J
  simp only [d8,j4,j8] at J
  obtain ⟨⟨⟨U,Y⟩,T⟩,S⟩:=J
  have hy:(y.length == 0)=false:=by rw [U]; rfl
  cases D:(decide (x.length < y.length) || decide (oY x < oY y)) with
  | true=>exact nN fC (aT _ _ _) gY (gP _ _) (meets_str_split_cannot_occur x y t u D) (qAf (l:=[(x,t)]) I L (c7 D).symm S T)
  | false =>
   cases O:(eU x y 0 x.length (x.length+1)).isEmpty with
   | true=>exact nN fC (aT _ _ _) gY (gP _ _) (meets_str_split_not_found x y t u D hy O) (qAf (l:=[(x,t)]) I L ((d0 (lH D)).trans (c7 O)).symm S T)
   | false =>
    refine nN fC (aT _ _ _) gY (gP _ _) (meets_str_split_sep x y t u D hy O hx Y) ?_
    show wants _ NoE _ { s with toks:=_,heap:=s.heap.push { cls:=.type "list", data:=.seq (strsFrom s.toks (mO x (eU x y 0 x.length (x.length+1)) y.length)).toArray } }
    rw [strsFrom_eq]
    exact qAf (l:=numbered s.toks _) I L ((numbered_texts _ _).trans ((d0 (lH D)).trans (d0 (lH O))).symm) S T
 ·exact f8 (g8 (λ r:Rs V=>r.lift Z) (d0 J)) B
end
def qDs (D v:V) (H:Hp):Rs V:=(qQ D).elim .bad λ B=>((qV H v).bind hZ).elim .bad λ u =>
 if (JoinOk B u && kO (lX B u))=true then okH (.str (lX B u)) H else .bad
section
variable {P:Par} {fr:Ln} {A:n6} {env:Env} {W W':Wd} {Z Z':St} {s s':d6} {cx:Sx}
theorem zHr (I:Inv P fr W Z.toHp s) (L:Loc P env W Z s.heap) {O v:V} {c d:g9} (hs:VR W Z.nxt O c) (hv:VR W Z.nxt v d) (u:(qDs O v Z.toHp).lift Z≠.bad) :
  wpAny P.M A (call (.builtin "str.join") [c,d] []) (Post P fr env W Z s ((qDs O v Z.toHp).lift Z)) NoE s:=by
 unfold qDs at u ⊢
 obtain ⟨B,e1,u⟩:=zS u
 rw [e1]
 obtain ⟨X,e2,u⟩:=zS u
 rw [e2]
 obtain rfl:=qI e1
 obtain ⟨t,rfl,_⟩:=hs.inv_str
 obtain ⟨xs,e3,e4⟩:=Option.bind_eq_some_iff.mp e2
 obtain ⟨a,items,rfl,U,hr,Y⟩:=xL I hv e3
 obtain ⟨l,e5,rfl⟩:=qJx hr e4
 have S:s.heap.IsList a (strValues l).toArray:=by rw [← e5,oO]; exact U
 by_cases J:(JoinOk B (l.map (·.1)) && kO (lX B (l.map (·.1))))=true
 ·show wpAny _ _ _ (Post P fr env W Z s ((if _ then _ else _:Rs V).lift Z)) _ _
  rw [c7 J]
  rw [d8] at J
  obtain ⟨T,D⟩:=J
  unfold kO at D
  rw [d8,j4] at D
  refine nN nX (aT _ _ _) PySem.F.entry_str_join (PySem.F.args_str_join_2 _ _) (meets_str_join_list B t a l (by have:=T; unfold JoinOk at this; simpa using this)) ⟨S,?_⟩
  exact post_join l ⟨D.1,λ t' k=>vP I L rfl (.str _ _ D.1 D.2)⟩
 ·exact f8 (g8 (λ r:Rs V=>r.lift Z) (d0 J)) u
end
theorem slot_md_get:Slot "method_descriptor" "__get__" "method_descriptor.__get__" :=
 .of (owner:="method_descriptor") (n:="__get__") (by rw [bI,n9]; kernel_rfl) (by decide +kernel) (by decide +kernel) (by decide +kernel)
  (by first | exact .inl (by decide +kernel) | exact .inr (by decide +kernel)) (by rw [eR]; kernel_rfl)
theorem qIs:entryFor table "method_descriptor.__get__" = some Builtin.«method_descriptor.__get__»:=eS (by kernel_rfl)
theorem qLr (a b c:g9):argsOk "method_descriptor.__get__" ⟨[a,b,c],[]⟩:=by unfold argsOk; kernel_rfl
theorem qTm:typeLookup (.type "method_descriptor") "__set__" = pure none:=by rw [bI,n9]; kernel_rfl
theorem qId:typeLookup (.type "method_descriptor") "__delete__" = pure none:=by rw [bI,n9]; kernel_rfl
theorem qJs:Manifest.toldItsClass.contains "list.append" = false:=by decide +kernel
section
variable {prog:gA} {w:World} {A:n6} {E:Pv} {h:mS} {g:Array GenState} {d:Drawn} {t:Nat} {os:OsState} {a:Addr} {o:Obj}
theorem qZh {c:Bool} {α:Type} {x y:Sem α} {Q:α->d6->Prop} {s:d6} {M:Model} (hc:c=false) (h:wpAny M A y Q E s):wpAny M A (if c=true then x else y) Q E s:=by
 subst hc; exact h
theorem qXm {Q:Fin->d6->Prop} (hx:h.get? a=some o) (hc:o.cls=.type "list") (B:Q (.done (.ret (.ref h.objs.size))) ⟨h.push (zT a),g,d,t,os⟩) :
  wpAny (model prog w) A (Builtin.«method_descriptor.__get__» ⟨[.builtin "list.append", .ref a,.type "list"],[]⟩) Q E ⟨h,g,d,t,os⟩:=by
 have u:(⟨h,g,d,t,os⟩:d6).TypeIs (.ref a) "list" := ⟨_,hx,hc⟩
 have hs:isSubtype (.type "list") (.type "list")=pure true:=by rw [eR]; kernel_rfl
 unfold Builtin.«method_descriptor.__get__»
 refine d3 (v6 (a:=(.builtin "list.append", some (.ref a),some (.type "list"))) (by first | rfl | kernel_rfl) ?_)
 dsimp only
 refine qZh qJs ?_
 refine d3 ?_
 wp_delta
 refine d3 ?_
 refine v6 (a:=(("append" : Str),Value.type "list")) (by first | rfl | kernel_rfl) ?_
 dsimp only
 refine d3 (iM u hs ?_)
 refine qZh rfl ?_
 refine d9 ?_
 refine d3 ?_
 unfold newFields
 refine v2 ?_ (by show (2:Nat)<=g0+2; decide)
 exact d9 B
theorem qTi {R:Result->d6->Prop} (hx:h.get? a=some o) (hc:o.cls=.type "list") (B:R (.ok (.ret (.ref h.objs.size))) ⟨h.push (zT a),g,d,t,os⟩) :
  codeAny (model prog w) A (.call (.builtin "method_descriptor.__get__") ⟨[.builtin "list.append", .ref a,.type "list"],[]⟩) R ⟨h,g,d,t,os⟩:=by
 have u:(⟨h,g,d,t,os⟩:d6).TypeIs (.builtin "list.append") "method_descriptor" := lY
 exact iY slot_md_get.plain qIs (slot_md_get.check _ _ _ _ _ _ _ _ u (qLr _ _ _) (qXm hx hc B))
variable {xs:Array g9} {k:Nat}
theorem qJh {u:Tok} {Q:Fin->d6->Prop} (hx:h.get? a=some (oP xs k)) (L:Q (.done (.ret (.ref h.objs.size))) ⟨h.push (zT a),g,d,t,os⟩) :
  wpAny (model prog w) A (Builtin.«object.__getattribute__» ⟨[.ref a,.str "append" u],[]⟩) Q E ⟨h,g,d,t,os⟩:=by
 unfold oP at hx
 have D:(⟨h,g,d,t,os⟩:d6).TypeIs (.ref a) "list" := ⟨_,hx,rfl⟩
 have B:(⟨h,g,d,t,os⟩:d6).TypeIs (.builtin "list.append") "method_descriptor" := lY
 have f4:=F.slot_list_append.lookup
 have f5:=lY
 have f6:=slot_md_get.lookup
 have f7:=qTm
 have J:=qId
 repeat (any_goals (first | assumption | wp_step))
 refine qTi hx rfl ?_
 repeat (any_goals (first | assumption | wp_step))
theorem qLt {B:Tok} {R:Result->d6->Prop} (hx:h.get? a=some (oP xs k)) (u:R (.ok (.ret (.ref h.objs.size))) ⟨h.push (zT a),g,d,t,os⟩) :
  codeAny (model prog w) A (.call (.builtin "list.__getattribute__") ⟨[.ref a,.str "append" B],[]⟩) R ⟨h,g,d,t,os⟩ :=
 iY F.slot_list_getattribute.plain F.entry_list_ga (F.slot_list_getattribute.check _ _ _ _ _ _ _ _ (show (⟨h,g,d,t,os⟩:d6).TypeIs (.ref a) "list" from ⟨_,hx,rfl⟩) (F.args_list_getattribute_2 _ _) (qJh hx u))
theorem qPe {Q:Pv} (hx:h.get? a=some (oP xs k)) (D:Q (.ref h.objs.size) ⟨h.push (zT a),g,d,t+1,os⟩):wpAny (model prog w) A (getAttr (.ref a) "append" true) Q E ⟨h,g,d,t,os⟩:=by
 have B:∀ u,(⟨h,g,d,u,os⟩:d6).TypeIs (.ref a) "list" := λ q=>⟨_,hx,rfl⟩
 have J:=F.slot_list_getattribute.lookup
 have f3:=F.slot_list_getattribute.bind (.ref a)
 unfold getAttr getAttrBy
 repeat (any_goals (first | assumption | exact B _ | wp_step))
 refine qLt hx ?_
 repeat (any_goals (first | assumption | wp_step))
end
noncomputable def zQo:Manifest.Signature:=(gI "list.append").getD ⟨.keywords,"", "", .self,[]⟩
theorem qMs:gI "list.append" = some zQo:=by kernel_rfl
theorem qKu:builtinKind "list.append" = some .method:=by kernel_rfl
theorem qHr {as:Args}:(Code.builtin "list.append" as).quiet=true:=Code.quiet_builtin _ (by decide +kernel)
section
variable {prog:gA} {w:World} {A:n6} {E:Pv} {s:d6} {M:Model} {a b:Addr} {x:g9} {xs:Array g9} {k:Nat}
theorem qUw {Q:Unit->d6->Prop} (hx:s.heap.get? a=some (oP xs k)) (B:Q () s):wpAny M A (checkBoundCall "list.append" ⟨[.ref a,x],[]⟩) Q E s:=by
 have u:s.TypeIs (.ref a) "list" := ⟨_,hx,rfl⟩
 unfold checkBoundCall
 rw [qMs,qKu]
 dsimp only
 rw [zX1]
 refine d3 (iM (b:=false) u (by rw [eR]; kernel_rfl) ?_)
 rw [d0 (by decide +kernel)]
 refine d3 (d3 ?_)
 unfold loadHead
 refine fA hx (d9 ?_)
 rw [d0 (λ q=>zF1 q)]
 refine d3 (wpAny_typeOf u ?_)
 exact v6 (a:=()) (by first | rfl | kernel_rfl) B
theorem zBu {Q:Pv} (u:s.heap.get? b=some (zT a)) (hx:s.heap.get? a=some (oP xs k)) (D:xs.size+1<=g0)
  (B:Q .none { s with heap:=s.heap.update a (Obj.mapSeq λ l=>l.push x) }):wpAny (model prog w) A (call (.ref b) [x] []) Q E s:=by
 refine iN (codeAny_of_tree ?_)
 show wpAny _ A.in1 (callAny (.ref b) ⟨[x],[]⟩) _ _ s
 refine d3 (fA u ?_)
 show wpAny _ _ (if (Value.type "builtin_function_or_method" == Value.type "method" || Value.type "builtin_function_or_method" == Value.type "builtin_function_or_method" || Value.type "builtin_function_or_method" == Value.type "method-wrapper")=true then _ else _) _ _ _
 rw [c7 (by decide)]
 show wpAny _ _ (if (Value.type "builtin_function_or_method" != Value.type "method")=true then _ else _) _ _ _
 rw [c7 (by decide)]
 refine d3 (qUw hx ?_)
 refine d3 (d9 (d9 ?_))
 exact ⟨qHr,nP mA (PySem.list_append _ xs k x (by exact n1 D) prog w A (wants Q E) s ⟨hx,B⟩)⟩
theorem qTo {M:Model} (B:s.heap.get? b=some (zT a)):jT M A (.ref b) s:=λ E Q u=>by
 unfold keeperOf
 refine d3 (fA B ?_)
 exact d9 (u _)
end
def zBv (v:V) (H:Hp):Rs V:=(qFe H v).elim .bad λ q=>okH (.bnd q.1) H
section
variable {P:Par} {fr:Ln} {A:n6} {env:Env} {W W':Wd} {Z Z':St} {s s':d6} {cx:Sx}
theorem VR.inv_bnd {W:Wd} {n k:Nat} {c:g9} (h:VR W n (.bnd k) c):∃ b,c=.ref b/\k < n/\W.fz b=some (zT (W.ρ k)):=h.dat
theorem zOi (I:Inv P fr W Z.toHp s) (L:Loc P env W Z s.heap) (hL:env.locals∈fr) {k:Nat} {x:V} {c d:g9} (hv:VR W Z.nxt (.bnd k) c) (hx:VR W Z.nxt x d) (J:(xD (.ref k) x Z.toHp).lift Z≠.bad) :
  wpAny P.M A (call c [d] []) (Post P fr env W Z s ((xD (.ref k) x Z.toHp).lift Z)) NoE s:=by
 refine bC λ S=>?_
 obtain ⟨b,rfl,hk,B⟩:=hv.inv_bnd
 obtain ⟨_,xs,e0,O,D⟩:=qGz (λ q=>uJ J q)
 cases e0
 rw [qEn O D] at S
 obtain ⟨_,T,hg,hr⟩:=I.obj _ _ O
 obtain ⟨items,e,rfl,r,z⟩:=hr.inv_list
 have u:=r.length
 rw [h9] at u
 refine S (zBu (I.frz _ _ B).1 hg (by simp [D,u]) ?_)
 have hu:=IsL.update (n:=e) hg (λ xs=>xs.push d)
 refine ⟨_,Z.put k (.list (xs++[x])),W,rfl,Step.put I L hk hL (.list (xs++[x])) (.list (e:=_) ?_ ?_) (λ b o B e=>((gJ ..).2 b B).trans e) hu rfl rfl,.none⟩
 ·rw [mE]; exact r.append (.cons hx .nil)
 ·rw [size_push]; simp [D,u]
theorem zJc (I:Inv P fr W Z.toHp s) (L:Loc P env W Z s.heap) {v:V} {c:g9} (hv:VR W Z.nxt v c) (u:(zBv v Z.toHp).lift Z≠.bad) :
  wpAny P.M A (getAttr c "append" true) (Post P fr env W Z s ((zBv v Z.toHp).lift Z)) NoE s:=by
 refine bC λ B=>?_
 obtain ⟨⟨k,xs⟩,e⟩:=qP (λ q=>uJ u q)
 obtain ⟨rfl,D⟩:=wQ e
 obtain ⟨rfl,hk⟩:=hv.inv_ref
 have e1:zBv (.ref k) Z.toHp=okH (.bnd k) Z.toHp:=by show (qFe Z.toHp (.ref k)).elim Rs.bad _=_; rw [e]; rfl
 rw [e1] at B
 obtain ⟨_,J,hg,hr⟩:=I.obj _ _ D
 obtain ⟨items,e,rfl,r,z⟩:=hr.inv_list
 obtain ⟨h,g,d,t,os⟩:=s
 refine B (qPe hg ?_)
 have st:=Step.freeze (s':={ heap:=h.push (zT (W.ρ k)),gens:=g,drawn:=d,toks:=t+1,os:=os }) I L (zT (W.ρ k)) rfl rfl rfl rfl
 exact ⟨_,_,_,rfl,st,.bnd hk (by show (if _=_ then _ else _)=_; rw [c7 rfl]; rfl)⟩
end
end Mine.Lake
namespace Mine.Lake
open PySem PySem.W PyProof.Rows Mine.Lake.Re
def qGk:List V->Option (List Int)
 | []=>some []
 | [a]=>(qU a).map λ i=>[i]
 | [a,b]=>(qU a).bind λ i=>(qU b).map λ l=>[i,l]
 | _=>none
noncomputable def mtV:Option (Nat×Nat)->V
 | some (p,e)=>.mt p e
 | none=>.none
def endB (v:V) (H:Hp):Rs V:=(qTh v).elim .bad λ x=>okH (.int x.2) H
def qDi (f:Str->Str->Nat->Nat->Int) (a b c d:V) (H:Hp):Rs V :=
 (qQ a).elim .bad λ x=>(qQ b).elim .bad λ y=>(qU c).elim .bad λ i=>(qU d).elim .bad λ j=>okH (.int (f x y (upTo x.length i) (min (upTo x.length j) x.length))) H
section
variable {P:Par} {fr:Ln} {A:n6} {env:Env} {W W':Wd} {Z Z':St} {s s':d6}
theorem qIh {W:Wd} {n:Nat} {v:V} {i:Int} {c:g9} (h:VR W n v c) (e:qU v=some i):∃ t,c=.int i t:=by
 rw [qK e] at h; exact h.inv_int
theorem qTr {W:Wd} {n:Nat} {args:List V} {cs:Lv} {is:List Int} (h:VRs W n args cs) (e:qGk args=some is):IntArgs is cs:=by
 cases h with
 | nil=>cases e; exact .nil
 | cons a r=>cases r with
  | nil =>
   obtain ⟨i,B,rfl⟩:=Option.map_eq_some_iff.mp (show fU _ _=_ from e)
   obtain ⟨t,rfl⟩:=qIh a B
   exact .one _ _
  | cons b r=>cases r with
   | nil =>
    obtain ⟨i,B,h2⟩:=Option.bind_eq_some_iff.mp (show Option.bind _ _=_ from e)
    obtain ⟨l,h3,rfl⟩:=Option.map_eq_some_iff.mp h2
    obtain ⟨t,rfl⟩:=qIh a B
    obtain ⟨u,rfl⟩:=qIh b h3
    exact .two _ _ _ _
   | cons _ _=>exact zN1 e
theorem qPy (I:Inv P fr W Z.toHp s) {p e:Nat} {c:g9} (h:VR W Z.nxt (.mt p e) c):∃ a o,c=.ref a/\MatchAt s.heap a p e/\s.heap.get? a=some o/\o.cls=.type "re.Match" /\ o.dict=none:=by
 obtain ⟨_,_,_,_,_,_,_,_,_,rfl,u,h2,h3,h4,h5,B,D,J⟩:=h.dat
 exact ⟨_,_,rfl,⟨_,_,_,_,_,_,_,_,(I.frz _ _ u).1,h2,h3,h4,(I.frz _ _ h5).1,B,D⟩,(I.frz _ _ u).1,h2,J⟩
theorem wS {r:Rs V} (h:r.lift Z≠.bad):r≠.bad:=λ q=>h (by rw [q]; rfl)
theorem end_ok (I:Inv P fr W Z.toHp s) (L:Loc P env W Z s.heap) {v:V} {c:g9} (hv:VR W Z.nxt v c) (u:(endB v Z.toHp).lift Z≠.bad) :
  wpAny P.M A (call (.builtin "re.Match.end") [c] []) (Post P fr env W Z s ((endB v Z.toHp).lift Z)) NoE s:=by
 obtain ⟨x,hx⟩:=qP (wS u)
 obtain rfl:=wR hx
 obtain ⟨a,o,rfl,X,_⟩:=qPy I hv
 exact zBr X (vP I L rfl (.int _ _))
theorem qTb {f:Str->Str->Nat->Nat->Int} {a b c d:V} {H:Hp} (u:qDi f a b c d H≠.bad):∃ x y i j,a=.str x/\b=.str y/\c=.int i/\d=.int j/\qDi f a b c d H=okH (.int (f x y (upTo x.length i) (min (upTo x.length j) x.length))) H:=by
 obtain ⟨x,e1,_⟩:=vC (show (qQ a).elim Rs.bad _≠.bad from u)
 obtain rfl:=qI e1
 obtain ⟨y,e2,_⟩:=vC (show (qQ b).elim Rs.bad _≠.bad from u)
 obtain rfl:=qI e2
 obtain ⟨i,e3,_⟩:=vC (show (qU c).elim Rs.bad _≠.bad from u)
 obtain rfl:=qK e3
 obtain ⟨j,e4,_⟩:=vC (show (qU d).elim Rs.bad _≠.bad from u)
 obtain rfl:=qK e4
 exact ⟨x,y,i,j,rfl,rfl,rfl,rfl,rfl⟩
theorem VRs.inv4 {W:Wd} {n:Nat} {x y z u:V} {cs:Lv} (h:VRs W n [x,y,z,u] cs):∃ c d e f,cs=[c,d,e,f]/\VR W n x c/\VR W n y d/\VR W n z e/\VR W n u f:=by
 refine bC λ B=>?_
 obtain ⟨c,O,rfl,a,b⟩:=h.inv_cons
 obtain ⟨d,es,rfl,J,c'⟩:=b.inv_cons
 obtain ⟨e,f,rfl,L,D⟩:=c'.inv2
 refine B ?_
 exact ⟨c,d,e,f,rfl,a,J,L,D⟩
theorem qXp (I:Inv P fr W Z.toHp s) (L:Loc P env W Z s.heap) {a b c d:V} {cargs:Lv} (ha:VRs W Z.nxt [a,b,c,d] cargs) (u:(qDi xR a b c d Z.toHp).lift Z≠.bad) :
  wpAny P.M A (call (.builtin "str.rfind") cargs []) (Post P fr env W Z s ((qDi xR a b c d Z.toHp).lift Z)) NoE s:=by
 obtain ⟨O,D,J,cd,rfl,B,h2,h3,h4⟩:=ha.inv4
 obtain ⟨x,y,i,j,rfl,rfl,rfl,rfl,e⟩:=qTb (wS u)
 rw [e]
 obtain ⟨_,rfl,_⟩:=B.inv_str
 obtain ⟨_,rfl,_⟩:=h2.inv_str
 obtain ⟨_,rfl⟩:=h3.inv_int
 obtain ⟨_,rfl⟩:=h4.inv_int
 exact qOx (vP I L rfl (.int _ _))
end
def qFz (x:Str) (is:List Int) (H:Hp):Rs V :=
 if -(2 ^ 63)<=zL is/\zL is < 2 ^ 63/\-(2 ^ 63)<=zK is/\zK is < 2 ^ 63 then
  (match zM x.cps words1 (min (zL is).toNat x.cps.size) (min (zK is).toNat x.cps.size) with
  | some (p,e)=>okH (.mt p e) H
  | none=>okH .none H)
 else .bad
def xJ (args:List V) (H:Hp):Rs V:=match args with
 | a::r=>(qQ a).elim .bad λ x=>(qGk r).elim .bad λ is=>qFz x is H
 | _=>.bad
def qMl (v:V) (H:Hp):Rs V:=(qTh v).elim .bad λ x=>okH (.int x.1) H
def qWp (v:V) (H:Hp):Rs V:=(qTh v).elim .bad λ x=>okH (.tup [.int x.1,.int x.2]) H
def wC:List V->Option (List Int)
 | []=>some []
 | v::r=>(qU v).bind λ i=>(wC r).map λ l=>i::l
def zDc (v:V) (H:Hp):Rs V:=((qV H v).bind wC).elim .bad λ ns=>okH (.int ns.sum) H
section
variable {P:Par} {fr:Ln} {A:n6} {env:Env} {W W':Wd} {Z Z':St} {s s':d6}
set_option tactic.hygienic true in
theorem qSp {b D:Addr} (hb:P.B.get? b=some (boundObj "re.Pattern.search" D)) (hp:PatAt P.B D code1) (I:Inv P fr W Z.toHp s) (L:Loc P env W Z s.heap) {args:List V} {cargs:Lv} (ha:VRs W Z.nxt args cargs) (u:(xJ args Z.toHp).lift Z≠.bad) :
  wpAny P.M A (call (.ref b) cargs []) (Post P fr env W Z s ((xJ args Z.toHp).lift Z)) NoE s:=by
 have O:=wS u
 cases args with
 | nil=>exact f8 rfl u
 | cons v r =>
 refine bC λ J=>?_
 obtain ⟨c,cs,rfl,h1,h2⟩:=ha.inv_cons
 obtain ⟨x,ex⟩:=qP (show (qQ v).elim Rs.bad _≠.bad from O)
 obtain rfl:=qI ex
 obtain ⟨is,hi⟩:=qP (show (qGk r).elim Rs.bad _≠.bad from O)
 refine J ?_
 have hB:xJ (.str x::r) Z.toHp=qFz x is Z.toHp:=by
  show (qGk r).elim Rs.bad _=_
  rw [hi]; rfl
 rw [hB] at u ⊢
 refine bC λ J=>?_
 obtain ⟨t,rfl,Y,hs⟩:=h1.inv_str
 refine J ?_
 have X:=qTr h2 hi
 unfold qFz at u ⊢
 split at u
 ·rename_i hr
  rw [c7 hr]
  refine bC λ J=>?_
  obtain ⟨op,fs,ct,p1,p2,p3,p4,p5,p6,oc,items,e,p7,p8,p9⟩:=hp.at_
  refine J ?_
  refine qLo (I.keep _ _ hb) ⟨op,fs,ct,I.keep _ _ p1,p2,p3,p4,p5,p6,oc,items,e,I.keep _ _ p7,p8,p9⟩ X Y hr.1 hr.2.1 hr.2.2.1 hr.2.2.2 (λ p e S=>?_) λ S=>?_
  ·rw [S]
   have T:=Step.freeze (s':={ s with heap:=s.heap.push (jW p e) }) I L (jW p e) rfl rfl rfl rfl
   have hz:(s.heap.push (jW p e)).objs.size=s.heap.objs.size+1:=iC ..
   have U:=Step.freeze (s':={ s with heap:=(s.heap.push (jW p e)).push (vY x t D s.heap.objs.size (min (zL is).toNat x.cps.size) (min (zK is).toNat x.cps.size)) }) T.inv T.loc (vY x t D s.heap.objs.size (min (zL is).toNat x.cps.size) (min (zK is).toNat x.cps.size)) rfl rfl rfl rfl
   refine ⟨_,_,_,rfl,T.trans U,?_⟩
   rw [← hz]
   refine .mt (o:=vY x t D s.heap.objs.size (min (zL is).toNat x.cps.size) (min (zK is).toNat x.cps.size)) (ot:=jW p e) (by show (if _=_ then _ else _)=_; rw [c7 rfl]) rfl rfl rfl (U.nx.wle.fz _ _ (by show (if _=_ then _ else _)=_; rw [c7 rfl])) rfl rfl rfl
  ·rw [S]
   exact ⟨_,_,W,rfl,Step.refl I L,.none⟩
 ·exact f8 rfl u
theorem qRx (I:Inv P fr W Z.toHp s) (L:Loc P env W Z s.heap) {v:V} {c:g9} (hv:VR W Z.nxt v c) (u:(qMl v Z.toHp).lift Z≠.bad) :
  wpAny P.M A (call (.builtin "re.Match.start") [c] []) (Post P fr env W Z s ((qMl v Z.toHp).lift Z)) NoE s:=by
 obtain ⟨x,hx⟩:=qP (wS u)
 obtain rfl:=wR hx
 obtain ⟨a,o,rfl,X,_⟩:=qPy I hv
 exact qOw X (vP I L rfl (.int _ _))
theorem zDf (I:Inv P fr W Z.toHp s) (L:Loc P env W Z s.heap) {v:V} {c:g9} (hv:VR W Z.nxt v c) (u:(qWp v Z.toHp).lift Z≠.bad) :
  wpAny P.M A (call (.builtin "re.Match.span") [c] []) (Post P fr env W Z s ((qWp v Z.toHp).lift Z)) NoE s:=by
 obtain ⟨⟨p,e⟩,hx⟩:=qP (wS u)
 obtain rfl:=wR hx
 obtain ⟨a,o,rfl,X,_⟩:=qPy I hv
 refine qUz X ?_
 have st:=Step.freeze (s':={ s with heap:=s.heap.push { cls:=.type "tuple", data:=.seq #[.int p s.toks,.int e (s.toks+1)] },toks:=s.toks+1+1 }) I L { cls:=.type "tuple", data:=.seq #[.int p s.toks,.int e (s.toks+1)] } rfl rfl rfl rfl
 exact ⟨_,_,_,rfl,st,.tup (by show (if _=_ then _ else _)=_; rw [c7 rfl]) rfl rfl (by show (2:Nat)<=g0; decide) (.cons (.int _ _) (.cons (.int _ _) .nil))⟩
theorem qKw {W:Wd} {n:Nat}:∀ {xs:List V} {cs:Lv} {u:List Int},VRs W n xs cs->wC xs=some u->IntsAre cs u
 | [],_,u,h,e=>by rw [h.inv_nil]; cases e; exact .nil
 | x::r,_,u,h,e=>by
  obtain ⟨c,D,rfl,B,h2⟩:=h.inv_cons
  obtain ⟨i,e1,e2⟩:=Option.bind_eq_some_iff.mp (show Option.bind _ _=some u from e)
  obtain ⟨l,e3,rfl⟩:=Option.map_eq_some_iff.mp e2
  obtain ⟨t,rfl⟩:=qIh B e1
  exact .cons _ _ (qKw h2 e3)
theorem zKq (Y:A.handled=none) (I:Inv P fr W Z.toHp s) (L:Loc P env W Z s.heap) {v:V} {c:g9} (hv:VR W Z.nxt v c) (T:(zDc v Z.toHp).lift Z≠.bad) :
  wpAny P.M A (call (.builtin "sum") [c] []) (Post P fr env W Z s ((zDc v Z.toHp).lift Z)) NoE s:=by
 have S:((qV Z.toHp v).bind wC).elim Rs.bad (λ ns=>okH (.int ns.sum) Z.toHp)≠.bad:=wS T
 refine bC λ O=>?_
 obtain ⟨ns,e⟩:=qP S
 obtain ⟨xs,e1,e2⟩:=Option.bind_eq_some_iff.mp e
 obtain ⟨a,items,rfl,U,hr,hz⟩:=xL I hv e1
 refine O ?_
 have hi:=qKw hr e2
 have X:zDc v Z.toHp=okH (.int ns.sum) Z.toHp:=by
  show ((qV Z.toHp v).bind wC).elim Rs.bad _=_
  rw [e]; rfl
 have u:=hi.allInts
 rw [oO] at u
 refine bC λ O=>?_
 obtain ⟨B,rfl⟩:=u.items
 refine O ?_
 refine sum_intListG Y U λ h' D t' hk=>?_
 have hs:preSum (numAt B) B.size=ns.sum:=by
  rw [← hi.numsOf,nums_intItems,preSum_eq,t7 (by simp)]
 rw [hs]
 exact (Step.grow (s':={ s with heap:=h',toks:=D }) I L hk rfl rfl).inv |> λ J=>Post.after (Step.grow (s':={ s with heap:=h',toks:=D }) I L hk rfl rfl) (vP J (Step.grow (s':={ s with heap:=h',toks:=D }) I L hk rfl rfl).loc X (.int _ _))
end
end Mine.Lake
namespace Mine.Lake
open PySem PySem.W PyProof.Rows
def qEe (a b:V) (H:Hp):Rs V:=(qQ a).elim .bad λ x=>(qQ b).elim .bad λ y=>okH (.int (pV x y)) H
def uG (a b:V) (H:Hp):Rs V:=(qQ a).elim .bad λ x=>(qQ b).elim .bad λ y=>if kO (dJ x y)=true then okH (.str (dJ x y)) H else .bad
def qEp (a:V) (H:Hp):Rs V:=(qQ a).elim .bad λ x=>okH (.bool (oQ x)) H
section
variable {P:Par} {fr:Ln} {A:n6} {env:Env} {W W':Wd} {Z Z':St} {s s':d6} {cx:Sx}
theorem zBj (I:Inv P fr W Z.toHp s) (L:Loc P env W Z s.heap) {a b:V} {c d:g9} (ha:VR W Z.nxt a c) (B:VR W Z.nxt b d) (u:(qEe a b Z.toHp).lift Z≠.bad) :
  wpAny P.M A (call (.builtin "str.count") [c,d] []) (Post P fr env W Z s ((qEe a b Z.toHp).lift Z)) NoE s:=by
 unfold qEe at u ⊢
 obtain ⟨x,e1,u⟩:=zS u
 rw [e1]
 obtain ⟨y,e2,u⟩:=zS u
 rw [e2]
 obtain rfl:=qI e1
 obtain rfl:=qI e2
 obtain ⟨_,rfl,_⟩:=ha.inv_str
 obtain ⟨_,rfl,_⟩:=B.inv_str
 exact SC.count (vP I L rfl (.int ..))
theorem qTk (I:Inv P fr W Z.toHp s) (L:Loc P env W Z s.heap) {a b:V} {c d:g9} (ha:VR W Z.nxt a c) (J:VR W Z.nxt b d) (u:(uG a b Z.toHp).lift Z≠.bad) :
  wpAny P.M A (call (.builtin "str.lstrip") [c,d] []) (Post P fr env W Z s ((uG a b Z.toHp).lift Z)) NoE s:=by
 unfold uG at u ⊢
 obtain ⟨x,e1,u⟩:=zS u
 rw [e1]
 obtain ⟨y,e2,u⟩:=zS u
 rw [e2]
 obtain rfl:=qI e1
 obtain rfl:=qI e2
 obtain ⟨_,rfl,D,_⟩:=ha.inv_str
 obtain ⟨_,rfl,_⟩:=J.inv_str
 by_cases B:kO (dJ x y)=true
 ·show wpAny _ _ _ (Post P fr env W Z s ((if kO (dJ x y)=true then okH (.str (dJ x y)) Z.toHp else .bad:Rs V).lift Z)) _ _
  rw [c7 B]
  unfold kO at B
  rw [d8] at B
  exact SC.lstripChars (λ O k=>vP I L rfl (.str _ _ (m5 B.1) B.2)) D
 ·exact f8 (g8 (λ r:Rs V=>r.lift Z) (d0 B)) u
theorem zCh (I:Inv P fr W Z.toHp s) (L:Loc P env W Z s.heap) {a:V} {c:g9} (ha:VR W Z.nxt a c) (u:(qEp a Z.toHp).lift Z≠.bad) :
  wpAny P.M A (call (.builtin "str.isalnum") [c] []) (Post P fr env W Z s ((qEp a Z.toHp).lift Z)) NoE s:=by
 unfold qEp at u ⊢
 obtain ⟨x,e1,u⟩:=zS u
 rw [e1]
 obtain rfl:=qI e1
 obtain ⟨_,rfl,_⟩:=ha.inv_str
 exact SC.isalnum (qM rfl (Step.refl I L) (.bool _))
end
end Mine.Lake
namespace Mine.Lake
open PySem PySem.W PyProof.Rows Mine.Lake.Re
structure Prg where
 K:Frag
 C:Addr
 meths:List (Str×Addr)
 flds:List Str
 gl:Str->Option V
 tab:Addr
 tabC:Addr
 tabF:Nat->Nat
 srch:Addr
noncomputable def qCg:V->Bool
 | .top w=>handedIn w
 | _=>true
noncomputable def qXs:V->Option Nat
 | .ref k=>some k
 | _=>none
theorem qDg {v:V} {x:Nat}:qXs v=some x->v=.ref x:=by
 cases v <;> intro h <;> first | exact zN1 h | exact g8 _ (j7 h)
noncomputable def qVz:V->Option Addr
 | .top (.ref d)=>some d
 | _=>none
theorem qJr {v:V} {x:Addr}:qVz v=some x->v=.top (.ref x):=by
 cases v with
 | top c=>cases c <;> intro h <;> first | exact zN1 h | exact g8 (λ d=>V.top (.ref d)) (j7 h)
 | _=>exact λ h=>zN1 h
noncomputable def zKd:O->Option (Addr×Nat)
 | .inst C d=>some (C,d)
 | _=>none
theorem qOe {o:O} {x:Addr×Nat}:zKd o=some x->o=.inst x.1 x.2:=by
 cases o <;> intro h <;> first | exact zN1 h | exact j7 h ▸ rfl
noncomputable def zKe:O->Option (List (Str×V))
 | .dict fs=>some fs
 | _=>none
theorem qOq {o:O} {x:List (Str×V)}:zKe o=some x->o=.dict x:=by
 cases o <;> intro h <;> first | exact zN1 h | exact g8 _ (j7 h)
def kZ (G:Prg) (o:V) (H:Hp):Option (Nat×Nat×List (Str×V)) :=
 (qXs o).bind λ k=>(H.obj k).bind λ a=>(zKd a).bind λ x=>(H.obj x.2).bind λ b=>(zKe b).bind λ fs=>if x.1=G.C then some (k,x.2,fs) else none
def yN (G:Prg) (o:V) (f:Str) (H:Hp):Ov :=
 (kZ G o H).elim (if f=("append" : Str) then (qFe H o).elim .bad λ q=>.ok (.bnd q.1) else .bad) λ q=>if G.flds.contains f=true then (q.2.2.lookup f).elim .bad λ v=>if qCg v=true then .ok v else .bad else .bad
def zLa (G:Prg) (o:V) (f:Str) (v:V) (H:Hp):Option Hp :=
 (kZ G o H).bind λ q=>if G.flds.contains f=true/\q.2.2.length<=100 then some { H with obj:=λ j=>if j=q.2.1 then some (.dict (setF f v q.2.2)) else H.obj j } else none
noncomputable def qW (m:Str):Option String:=if m=("find" : Str) then some "str.find" else if m=("rfind" : Str) then some "str.rfind" else if m=("split" : Str) then some "str.split" else if m=("join" : Str) then some "str.join" else if m=("lstrip" : Str) then some "str.lstrip" else if m=("isalnum" : Str) then some "str.isalnum" else if m=("count" : Str) then some "str.count" else none
noncomputable def uI (m:Str):Option String:=if m=("append" : Str) then some "list.append" else none
noncomputable def vQ (m:Str):Option String:=if m=("start" : Str) then some "re.Match.start" else if m=("span" : Str) then some "re.Match.span" else none
def zPx (G:Prg) (k:Nat) (m:Str) (H:Hp):Option (V×List V) :=
 (kZ G (.ref k) H).elim ((qFe H (.ref k)).bind λ z=>(uI m).map λ i=>(.top (.builtin i),[.ref k])) λ q=>if q.2.2.lookup m=none then (G.meths.lookup m).map λ g=>(.top (.ref g),[.ref k]) else none
def qUa (G:Prg) (o:V) (m:Str) (H:Hp):Option (V×List V) :=
 (qQ o).elim ((qTh o).elim ((qXs o).bind λ k=>zPx G k m H) λ x=>(vQ m).map λ i=>(.top (.builtin i),[.mt x.1 x.2])) λ x=>(qW m).map λ i=>(.top (.builtin i),[.str x])
noncomputable def yH (args:List V) (f:V->Rs V):Rs V:=match args with | [a]=>f a | _=>.bad
noncomputable def qGx (args:List V) (f:V->V->Rs V):Rs V:=match args with | [a,b]=>f a b | _=>.bad
noncomputable def zKg (args:List V) (f:V->V->V->Rs V):Rs V:=match args with | [a,b,c]=>f a b c | _=>.bad
noncomputable def zKf (args:List V) (f:V->V->V->V->Rs V):Rs V:=match args with | [a,b,c,d]=>f a b c d | _=>.bad
def bapp (calm:Bool) (i:String) (args:List V) (H:Hp):Rs V :=
 if i = "len" then yH args λ a=>qIe a H
 else if i = "list.append" then qGx args λ a b=>xD a b H
 else if i = "sum" then yH args λ a=>if calm=true then .bad else zDc a H
 else if i = "str.find" then zKg args λ a b c=>qLb a b c H
 else if i = "str.rfind" then zKf args λ a b c d=>qDi xR a b c d H
 else if i = "re.Match.start" then yH args λ a=>qMl a H
 else if i = "re.Match.span" then yH args λ a=>qWp a H
 else if i = "str.split" then qGx args λ a b=>yJ a b H
 else if i = "str.join" then qGx args λ a b=>qDs a b H
 else if i = "str.lstrip" then qGx args λ a b=>uG a b H
 else if i = "str.isalnum" then yH args λ a=>qEp a H
 else if i = "str.count" then qGx args λ a b=>qEe a b H
 else .bad
def tapp (i:String) (args:List V) (H:Hp):Rs V :=
 if i = "range" then qAe args H
 else .bad
noncomputable abbrev Fns:=Addr->List V->Hp->Rs V
noncomputable abbrev qVm:=List Str->X->List (Str×Nat)->List V->Hp->Rs V
def zCc (G:Prg) (calm:Bool) (fns:Fns) (lam:qVm) (f:V) (args:List V) (H:Hp):Rs V:=match f with
 | .top (.builtin i)=>bapp calm i args H
 | .top (.type i)=>tapp i args H
 | .top (.ref a)=>if a=G.srch then xJ args H else fns a args H
 | .clo ps x cs=>lam ps x cs args H
 | .bnd k=>yH args λ x=>xD (.ref k) x H
 | _=>.bad
def trV (G:Prg) (v:V):Option (Nat->Nat):=(qVz v).bind λ d=>if d=G.tab then some G.tabF else none
def mk (G:Prg) (lv:Nat) (fns:Fns) (lam:qVm):Sx:={ lvl:=lv,gl:=G.gl,app:=zCc G false fns lam,get:=qUa G,fld:=yN G,setA:=zLa G,tr:=trV G }
structure PrgOk (P:Par) (G:Prg):Prop where
 cls:ClsOk P G.K G.C
 tab:TabOk G.K G.tabC G.tab G.tabF
 lam:qLw P
 srch:∃ pt,P.B.get? G.srch=some (boundObj "re.Pattern.search" pt)/\PatAt P.B pt code1
 meth:∀ m g,G.meths.lookup m=some g->findIn G.K (.ref G.C) m=some (some (.ref g))/\typeIn G.K (.ref g)=some (.type "function")
 fld:∀ f,G.flds.contains f=true->findIn G.K (.ref G.C) f=some none
 gl:∀ x v,G.gl x=some v->∃ c mg mb,P.B.Ns r8 mg/\P.B.Ns aY mb/\(mg x=some c\/(mg x=none/\mb x=some c))/\∀ W n,VR W n v c
def zCm (P:Par) (lv:Nat) (fns:Fns):Prop:=∀ fr A env,Fm P lv fr A env->∀ W Z s,Inv P fr W Z.toHp s->Loc P env W Z s.heap->∀ a args cargs,VRs W Z.nxt args cargs->(fns a args Z.toHp).lift Z≠.bad ->
  jT P.M A (.ref a) s/\wpAny P.M A (call (.ref a) cargs []) (Post P fr env W Z s ((fns a args Z.toHp).lift Z)) NoE s
def qJi (P:Par) (lv:Nat) (lam:qVm):Prop:=∀ fr A env,Fm P lv fr A env->∀ W Z s,Inv P fr W Z.toHp s->Loc P env W Z s.heap->∀ ps x cs u args cargs,VR W Z.nxt (.clo ps x cs) u->VRs W Z.nxt args cargs->(lam ps x cs args Z.toHp).lift Z≠.bad ->
  jT P.M A u s/\wpAny P.M A (call u cargs []) (Post P fr env W Z s ((lam ps x cs args Z.toHp).lift Z)) NoE s
section
variable {P:Par} {fr:Ln} {A:n6} {env:Env} {W W':Wd} {Z Z':St} {s s':d6} {G:Prg} {lv:Nat} {fns:Fns} {lam:qVm} {calm:Bool}
theorem wD {o:V} {H:Hp} {k d:Nat} {fs:List (Str×V)} (h:kZ G o H=some (k,d,fs)):o=.ref k/\H.obj k=some (.inst G.C d)/\H.obj d=some (.dict fs):=by
 obtain ⟨u,e1,h⟩:=Option.bind_eq_some_iff.mp h
 obtain ⟨a,e2,h⟩:=Option.bind_eq_some_iff.mp h
 obtain ⟨x,e3,h⟩:=Option.bind_eq_some_iff.mp h
 obtain ⟨b,e4,h⟩:=Option.bind_eq_some_iff.mp h
 obtain ⟨fs',e5,h⟩:=Option.bind_eq_some_iff.mp h
 by_cases q:x.1=G.C
 ·cases (c7 q).symm.trans h
  exact ⟨qDg e1,e2.trans (g8 some ((qOe e3).trans (q ▸ rfl))),e4.trans (g8 some (qOq e5))⟩
 ·exact zN1 ((d0 q).symm.trans h)
theorem qTw {W:Wd} {n:Nat} {v:V} {c:g9} (h:qCg v=true) (hv:VR W n v c):handedIn c=true:=by
 cases hv with
 | top=>exact h
 | _=>rfl
theorem VRs.inv3 {W:Wd} {n:Nat} {x y z:V} {cs:Lv} (h:VRs W n [x,y,z] cs):∃ c d e,cs=[c,d,e]/\VR W n x c/\VR W n y d/\VR W n z e:=by
 obtain ⟨c,B,rfl,a,b⟩:=h.inv_cons
 obtain ⟨d,e,rfl,u,c'⟩:=b.inv2
 exact ⟨c,d,e,rfl,a,u,c'⟩
theorem zCl {M:Model} {x:Str} {t:Tok} {R:g9×Lv->d6->Prop} {E:Pv} {u:Sem Bool} (B:R (.builtin "str.find", [.str x t]) s):wpAny M A (getMethod (.str x t) "find" u) R E s:=by
 with_reducible exact GM.of (.str x t) (aT _ _ _) PySem.F.slot_str_find PySem.F.type_str_find lW B
theorem kR {α:Type} {c:Prop} [Decidable c] {a b:α} {G:α->Prop} (u:c->G a) (h2:¬ c->G b):G (if c then a else b):=by
 by_cases h:c
 ·rw [c7 h]; exact u h
 ·rw [d0 h]; exact h2 h
theorem qGy {args:List V} {f:V->Rs V} {G:Rs V->Prop} (u:G .bad) (h:∀ a,args=[a]->G (f a)):G (yH args f):=by
 rcases args with _ | ⟨a,_ | ⟨b,r⟩⟩
 ·exact u
 ·exact h _ rfl
 ·exact u
theorem qLs {args:List V} {f:V->V->Rs V} {G:Rs V->Prop} (u:G .bad) (h:∀ a b,args=[a,b]->G (f a b)):G (qGx args f):=by
 rcases args with _ | ⟨a,_ | ⟨b,_ | ⟨c,r⟩⟩⟩
 ·exact u
 ·exact u
 ·exact h _ _ rfl
 ·exact u
theorem zQi {args:List V} {f:V->V->V->Rs V} {G:Rs V->Prop} (u:G .bad) (h:∀ a b c,args=[a,b,c]->G (f a b c)):G (zKg args f):=by
 rcases args with _ | ⟨a,_ | ⟨b,_ | ⟨c,_ | ⟨d,r⟩⟩⟩⟩
 ·exact u
 ·exact u
 ·exact u
 ·exact h _ _ _ rfl
 ·exact u
theorem zQh {args:List V} {f:V->V->V->V->Rs V} {G:Rs V->Prop} (u:G .bad) (h:∀ a b c d,args=[a,b,c,d]->G (f a b c d)):G (zKf args f):=by
 rcases args with _ | ⟨a,_ | ⟨b,_ | ⟨c,_ | ⟨d,_ | ⟨e,r⟩⟩⟩⟩⟩
 ·exact u
 ·exact u
 ·exact u
 ·exact u
 ·exact h _ _ _ _ rfl
 ·exact u
theorem qVo {M:Model} {x:Str} {t:Tok} {R:g9×Lv->d6->Prop} {E:Pv} {u:Sem Bool} (B:R (.builtin "str.rfind", [.str x t]) s):wpAny M A (getMethod (.str x t) "rfind" u) R E s:=by
 with_reducible exact GM.of (.str x t) (aT _ _ _) nG PySem.F.type_str_rfind lW B
theorem qVn {M:Model} {x:Str} {t:Tok} {R:g9×Lv->d6->Prop} {E:Pv} {u:Sem Bool} (B:R (.builtin "str.split", [.str x t]) s):wpAny M A (getMethod (.str x t) "split" u) R E s:=by
 with_reducible exact GM.of (.str x t) (aT _ _ _) fC PySem.F.type_str_split lW B
theorem zCk {M:Model} {x:Str} {t:Tok} {R:g9×Lv->d6->Prop} {E:Pv} {u:Sem Bool} (B:R (.builtin "str.join", [.str x t]) s):wpAny M A (getMethod (.str x t) "join" u) R E s:=by
 with_reducible exact GM.of (.str x t) (aT _ _ _) nX PySem.F.type_str_join lW B
theorem qPi {M:Model} {x:Str} {t:Tok} {R:g9×Lv->d6->Prop} {E:Pv} {u:Sem Bool} (B:R (.builtin "str.lstrip", [.str x t]) s):wpAny M A (getMethod (.str x t) "lstrip" u) R E s:=by
 with_reducible exact GM.of (.str x t) (aT _ _ _) PySem.F.slot_str_lstrip PySem.F.type_str_lstrip lW B
theorem qLx {M:Model} {x:Str} {t:Tok} {R:g9×Lv->d6->Prop} {E:Pv} {u:Sem Bool} (B:R (.builtin "str.isalnum", [.str x t]) s):wpAny M A (getMethod (.str x t) "isalnum" u) R E s:=by
 with_reducible exact GM.of (.str x t) (aT _ _ _) PySem.F.slot_str_isalnum PySem.F.type_str_isalnum lW B
theorem qVp {M:Model} {x:Str} {t:Tok} {R:g9×Lv->d6->Prop} {E:Pv} {u:Sem Bool} (B:R (.builtin "str.count", [.str x t]) s):wpAny M A (getMethod (.str x t) "count" u) R E s:=by
 with_reducible exact GM.of (.str x t) (aT _ _ _) PySem.F.slot_str_count PySem.F.type_str_count lW B
def BG (P:Par) (fr:Ln) (A:n6) (env:Env) (W:Wd) (Z:St) (s:d6) (f:g9) (cargs:Lv) (r:Rs V):Prop:=r.lift Z≠.bad->wpAny P.M A (call f cargs []) (Post P fr env W Z s (r.lift Z)) NoE s
def MG (M:Model) (A:n6) (s:d6) (v:g9) (m:Str) (R:g9×Lv->d6->Prop) (E:Pv) (u:Sem Bool) (i:String) (o:Option String):Prop:=o=some i->wpAny M A (getMethod v m u) R E s
theorem zJd (hc:calm=false->P.ex=none) (F:Fm P lv fr A env) (I:Inv P fr W Z.toHp s) (L:Loc P env W Z s.heap) {i:String} {args:List V} {cargs:Lv} (ha:VRs W Z.nxt args cargs) :
  (bapp calm i args Z.toHp).lift Z≠.bad->wpAny P.M A (call (.builtin i) cargs []) (Post P fr env W Z s ((bapp calm i args Z.toHp).lift Z)) NoE s:=by
 have D:BG P fr A env W Z s (.builtin i) cargs .bad:=λ u=>f8 rfl u
 show BG P fr A env W Z s (.builtin i) cargs (bapp calm i args Z.toHp)
 unfold bapp
 refine kR (G:=BG P fr A env W Z s (.builtin i) cargs) (λ hi=>qGy (G:=BG P fr A env W Z s (.builtin i) cargs) D λ a e=>?_) λ q=>?_
 ·subst hi e
  obtain ⟨_,rfl,B⟩:=ha.inv1
  exact λ u=>zNm I L B u
 refine kR (G:=BG P fr A env W Z s (.builtin i) cargs) (λ hi=>qLs (G:=BG P fr A env W Z s (.builtin i) cargs) D λ a b e=>?_) λ q=>?_
 ·subst hi e
  obtain ⟨_,_,rfl,B,h2⟩:=ha.inv2
  exact λ u=>qVi I L F.hL B h2 u
 refine kR (G:=BG P fr A env W Z s (.builtin i) cargs) (λ hi=>qGy (G:=BG P fr A env W Z s (.builtin i) cargs) D λ a e=>?_) λ q=>?_
 ·subst hi e
  obtain ⟨_,rfl,B⟩:=ha.inv1
  refine kR (G:=BG P fr A env W Z s (.builtin "sum") _) (λ q=>λ u=>f8 rfl u) λ J=>?_
  exact λ u=>zKq (F.handled.plain (hc (by cases calm <;> first | rfl | exact f8 rfl J))) I L B u
 refine kR (G:=BG P fr A env W Z s (.builtin i) cargs) (λ hi=>zQi (G:=BG P fr A env W Z s (.builtin i) cargs) D λ a b c e=>?_) λ q=>?_
 ·subst hi e
  obtain ⟨_,_,_,rfl,B,h2,h3⟩:=ha.inv3
  exact λ u=>zIc I L B h2 h3 u
 refine kR (G:=BG P fr A env W Z s (.builtin i) cargs) (λ hi=>zQh (G:=BG P fr A env W Z s (.builtin i) cargs) D λ a b c d e=>?_) λ q=>?_
 ·subst hi e
  exact λ u=>qXp I L ha u
 refine kR (G:=BG P fr A env W Z s (.builtin i) cargs) (λ hi=>qGy (G:=BG P fr A env W Z s (.builtin i) cargs) D λ a e=>?_) λ q=>?_
 ·subst hi e
  obtain ⟨_,rfl,B⟩:=ha.inv1
  exact λ u=>qRx I L B u
 refine kR (G:=BG P fr A env W Z s (.builtin i) cargs) (λ hi=>qGy (G:=BG P fr A env W Z s (.builtin i) cargs) D λ a e=>?_) λ q=>?_
 ·subst hi e
  obtain ⟨_,rfl,B⟩:=ha.inv1
  exact λ u=>zDf I L B u
 refine kR (G:=BG P fr A env W Z s (.builtin i) cargs) (λ hi=>qLs (G:=BG P fr A env W Z s (.builtin i) cargs) D λ a b e=>?_) λ q=>?_
 ·subst hi e
  obtain ⟨_,_,rfl,B,h2⟩:=ha.inv2
  exact λ u=>qWn I L B h2 u
 refine kR (G:=BG P fr A env W Z s (.builtin i) cargs) (λ hi=>qLs (G:=BG P fr A env W Z s (.builtin i) cargs) D λ a b e=>?_) λ q=>?_
 ·subst hi e
  obtain ⟨_,_,rfl,B,h2⟩:=ha.inv2
  exact λ u=>zHr I L B h2 u
 refine kR (G:=BG P fr A env W Z s (.builtin i) cargs) (λ hi=>qLs (G:=BG P fr A env W Z s (.builtin i) cargs) D λ a b e=>?_) λ q=>?_
 ·subst hi e
  obtain ⟨_,_,rfl,B,h2⟩:=ha.inv2
  exact λ u=>qTk I L B h2 u
 refine kR (G:=BG P fr A env W Z s (.builtin i) cargs) (λ hi=>qGy (G:=BG P fr A env W Z s (.builtin i) cargs) D λ a e=>?_) λ q=>?_
 ·subst hi e
  obtain ⟨_,rfl,B⟩:=ha.inv1
  exact λ u=>zCh I L B u
 refine kR (G:=BG P fr A env W Z s (.builtin i) cargs) (λ hi=>qLs (G:=BG P fr A env W Z s (.builtin i) cargs) D λ a b e=>?_) λ q=>?_
 ·subst hi e
  obtain ⟨_,_,rfl,B,h2⟩:=ha.inv2
  exact λ u=>zBj I L B h2 u
 ·exact D
theorem zCy (I:Inv P fr W Z.toHp s) (L:Loc P env W Z s.heap) {i:String} {args:List V} {cargs:Lv} (ha:VRs W Z.nxt args cargs) :
  (tapp i args Z.toHp).lift Z≠.bad->wpAny P.M A (call (.type i) cargs []) (Post P fr env W Z s ((tapp i args Z.toHp).lift Z)) NoE s:=by
 have B:BG P fr A env W Z s (.type i) cargs .bad:=λ u=>f8 rfl u
 show BG P fr A env W Z s (.type i) cargs (tapp i args Z.toHp)
 unfold tapp
 refine kR (G:=BG P fr A env W Z s (.type i) cargs) (λ hi=>?_) λ q=>?_
 ·subst hi
  exact λ u=>range_ok I L ha u
 ·exact B
theorem zJa (F:Fm P lv fr A env) (I:Inv P fr W Z.toHp s) (L:Loc P env W Z s.heap) {k:Nat} {args:List V} {B:g9} {cargs:Lv} (D:VR W Z.nxt (.bnd k) B) (ha:VRs W Z.nxt args cargs) :
  (yH args λ x=>xD (.ref k) x Z.toHp).lift Z≠.bad->wpAny P.M A (call B cargs []) (Post P fr env W Z s ((yH args λ x=>xD (.ref k) x Z.toHp).lift Z)) NoE s:=by
 show BG P fr A env W Z s B cargs (yH args λ x=>xD (.ref k) x Z.toHp)
 refine qGy (G:=BG P fr A env W Z s B cargs) (λ u=>f8 rfl u) λ a e=>?_
 subst e
 obtain ⟨_,rfl,J⟩:=ha.inv1
 exact λ u=>zOi I L F.hL D J u
theorem zOm (Q:PrgOk P G) (hc:calm=false->P.ex=none) (T:zCm P lv fns) (O:qJi P lv lam) (F:Fm P lv fr A env) (I:Inv P fr W Z.toHp s) (L:Loc P env W Z s.heap) {f:V} {args:List V} {D:g9} {cargs:Lv} (B:VR W Z.nxt f D) (ha:VRs W Z.nxt args cargs) (u:(zCc G calm fns lam f args Z.toHp).lift Z≠.bad) :
  jT P.M A D s/\wpAny P.M A (call D cargs []) (Post P fr env W Z s ((zCc G calm fns lam f args Z.toHp).lift Z)) NoE s:=by
 cases f with
 | top v =>
  obtain rfl:=B.inv_top
  cases D with
  | builtin i=>exact ⟨qFf,zJd hc F I L ha u⟩
  | type i=>exact ⟨qOb,zCy I L ha u⟩
  | ref a =>
   by_cases hs:a=G.srch
   ·have e:zCc G calm fns lam (.top (.ref a)) args Z.toHp=xJ args Z.toHp:=c7 hs
    rw [e] at u ⊢
    subst hs
    obtain ⟨U,p1,p2⟩:=Q.srch
    exact ⟨λ E Q J=>qIf (I.keep _ _ p1) J,qSp p1 p2 I L ha u⟩
   ·have e:zCc G calm fns lam (.top (.ref a)) args Z.toHp=fns a args Z.toHp:=d0 hs
    rw [e] at u ⊢
    exact T fr A env F W Z s I L _ args cargs ha u
  | _=>exact f8 rfl u
 | clo ps x cs=>exact O fr A env F W Z s I L _ _ _ _ args cargs B ha u
 | bnd k =>
  refine ⟨?_,zJa F I L B ha u⟩
  obtain ⟨b,rfl,hk,S⟩:=B.inv_bnd
  exact qTo (I.frz _ _ S).1
 | _=>exact f8 rfl u
theorem zDe {M:Model} {x m:Str} {t:Tok} {i:String} {R:g9×Lv->d6->Prop} {E:Pv} {B:Sem Bool} (D:R (.builtin i,[.str x t]) s) :
  qW m=some i->wpAny M A (getMethod (.str x t) m B) R E s:=by
 show MG M A s (.str x t) m R E B i (qW m)
 have J:MG M A s (.str x t) m R E B i none:=λ e=>nomatch e
 unfold qW
 refine kR (G:=MG M A s (.str x t) m R E B i) (λ u=>?_) λ q=>?_
 ·subst u
  intro e; cases e
  exact zCl D
 refine kR (G:=MG M A s (.str x t) m R E B i) (λ u=>?_) λ q=>?_
 ·subst u
  intro e; cases e
  exact qVo D
 refine kR (G:=MG M A s (.str x t) m R E B i) (λ u=>?_) λ q=>?_
 ·subst u
  intro e; cases e
  exact qVn D
 refine kR (G:=MG M A s (.str x t) m R E B i) (λ u=>?_) λ q=>?_
 ·subst u
  intro e; cases e
  exact zCk D
 refine kR (G:=MG M A s (.str x t) m R E B i) (λ u=>?_) λ q=>?_
 ·subst u
  intro e; cases e
  exact qPi D
 refine kR (G:=MG M A s (.str x t) m R E B i) (λ u=>?_) λ q=>?_
 ·subst u
  intro e; cases e
  exact qLx D
 refine kR (G:=MG M A s (.str x t) m R E B i) (λ u=>?_) λ q=>?_
 ·subst u
  intro e; cases e
  exact qVp D
 ·exact J
theorem qZa {M:Model} {a:Addr} {o:Obj} {m:Str} {i:String} {R:g9×Lv->d6->Prop} {E:Pv} {u:Sem Bool} (D:s.heap.get? a=some o) (B:o.cls=.type "list") (hd:o.dict=none) (L:R (.builtin i,[.ref a]) s) :
  uI m=some i->wpAny M A (getMethod (.ref a) m u) R E s:=by
 show MG M A s (.ref a) m R E u i (uI m)
 have J:MG M A s (.ref a) m R E u i none:=λ e=>nomatch e
 unfold uI
 refine kR (G:=MG M A s (.ref a) m R E u i) (λ O=>?_) λ q=>?_
 ·subst O
  intro e; cases e
  exact mK ⟨o,D,B⟩ PySem.F.plainAttrs_list mN lY (λ a e=>by cases e; exact ⟨o,D,hd⟩) L
 ·exact J
theorem zNh {M:Model} {a:Addr} {o:Obj} {m:Str} {i:String} {R:g9×Lv->d6->Prop} {E:Pv} {u:Sem Bool} (B:s.heap.get? a=some o) (D:o.cls=.type "re.Match") (hd:o.dict=none) (L:R (.builtin i,[.ref a]) s) :
  vQ m=some i->wpAny M A (getMethod (.ref a) m u) R E s:=by
 show MG M A s (.ref a) m R E u i (vQ m)
 have O:MG M A s (.ref a) m R E u i none:=λ e=>nomatch e
 unfold vQ
 refine kR (G:=MG M A s (.ref a) m R E u i) (λ J=>?_) λ q=>?_
 ·subst J
  intro e; cases e
  exact mK ⟨o,B,D⟩ vX qCy qMa (λ a e=>by cases e; exact ⟨o,B,hd⟩) L
 refine kR (G:=MG M A s (.ref a) m R E u i) (λ J=>?_) λ q=>?_
 ·subst J
  intro e; cases e
  exact mK ⟨o,B,D⟩ vX qFx qRl (λ a e=>by cases e; exact ⟨o,B,hd⟩) L
 ·exact O
theorem zNw (Q:PrgOk P G) (I:Inv P fr W Z.toHp s) (L:Loc P env W Z s.heap) {o:V} {m:Str} {U:g9} {vf:V} {first:List V} (J:VR W Z.nxt o U) (hg:qUa G o m Z.toHp=some (vf,first)) {pl:Sem Bool} {E:Pv} {R:g9×Lv->d6->Prop}
  (D:∀ r s' W',Step P fr env W Z s W' Z s'->VR W' Z.nxt vf r.1->VRs W' Z.nxt first r.2->R r s'):wpAny P.M A (getMethod U m pl) R E s:=by
 refine bC λ O=>?_
 unfold qUa at hg
 cases e1:qQ o with
 | some x =>
  rw [e1] at hg
  obtain ⟨i,e4,e5⟩:=Option.map_eq_some_iff.mp hg
  cases e5
  obtain rfl:=qI e1
  obtain ⟨t,rfl,B,h2⟩:=J.inv_str
  exact O (zDe (D _ s W (Step.refl I L) (.top _) (.cons (.str _ _ B h2) .nil)) e4)
 | none=>cases e2:qTh o with
  | some x =>
   rw [e1,e2] at hg
   obtain ⟨i,e4,e5⟩:=Option.map_eq_some_iff.mp hg
   cases e5
   obtain rfl:=wR e2
   obtain ⟨a,Y,rfl,X,B,h2,h3⟩:=qPy I J
   exact O (zNh B h2 h3 (D _ s W (Step.refl I L) (.top _) (.cons J .nil)) e4)
  | none =>
   rw [e1,e2] at hg
   obtain ⟨k,e3,u⟩:=Option.bind_eq_some_iff.mp (show Option.bind _ _=_ from hg)
   clear hg
   obtain rfl:=qDg e3
   obtain ⟨rfl,hk⟩:=J.inv_ref
   unfold zPx at u
   cases hi:kZ G (.ref k) Z.toHp with
   | some r =>
    obtain ⟨k',d,fs⟩:=r
    rw [hi] at u
    obtain ⟨e0,B,h2⟩:=wD hi
    cases e0
    by_cases S:fs.lookup m=none
    ·obtain ⟨g,e1,e2⟩:=Option.map_eq_some_iff.mp ((c7 S).symm.trans u)
     cases e2
     exact O (qZv Q.cls I B h2 (Q.meth m g e1).1 (Q.meth m g e1).2 S (D _ s W (Step.refl I L) (.top _) (.cons (.ref hk) .nil)))
    ·exact zN1 ((d0 S).symm.trans u)
   | none =>
    rw [hi] at u
    obtain ⟨⟨_,xs⟩,e4,u⟩:=Option.bind_eq_some_iff.mp (show Option.bind _ _=_ from u)
    obtain ⟨i,e5,e6⟩:=Option.map_eq_some_iff.mp u
    cases e6
    obtain ⟨e7,e8⟩:=wQ e4
    cases e7
    obtain ⟨_,Y,T,hr⟩:=I.obj _ _ e8
    obtain ⟨items,e,rfl,r,z⟩:=hr.inv_list
    exact O (qZa T rfl rfl (D _ s W (Step.refl I L) (.top _) (.cons (.ref hk) .nil)) e5)
theorem qYs (Q:PrgOk P G) (hc:P.ex=none) (hF:zCm P lv fns) (hM:qJi P lv lam):SxOk P (mk G lv fns lam):=by
 refine ⟨λ v f e=>?_,⟨Q.lam,λ z=>hc,Q.gl,λ fr A env F W Z s I L f args cf cargs u ha B=>zOm Q (λ z=>hc) hF hM F I L u ha B,λ fr A env F W Z s I L o m X vf first D hg pl E R T=>zNw Q I L D hg T,?_⟩,?_⟩
 ·obtain ⟨d,e1,e2⟩:=Option.bind_eq_some_iff.mp (show Option.bind _ _=_ from e)
  obtain rfl:=qJr e1
  by_cases hd:d=G.tab
  ·subst hd; cases (c7 rfl).symm.trans e2; exact ⟨_,_,_,rfl,Q.tab,Q.cls.inn⟩
  ·exact zN1 ((d0 hd).symm.trans e2)
 ·intro fr A env F W Z s I L o f X D B
  refine bC λ O=>?_
  replace B:yN G o f Z.toHp≠.bad:=λ q=>B (g8 (Ov.st · Z) q)
  cases hi:kZ G o Z.toHp with
  | some q =>
   obtain ⟨k,d,fs⟩:=q
   by_cases u:G.flds.contains f=true
   ·cases hv:fs.lookup f with
    | none=>exact B (by unfold yN; rw [hi]; exact (c7 u).trans (by rw [hv]; rfl))
    | some v =>
     by_cases U:qCg v=true
     ·have e:yN G o f Z.toHp=.ok v:=by unfold yN; rw [hi]; refine (c7 u).trans ?_; rw [hv]; exact c7 U
      obtain ⟨rfl,V,h2⟩:=wD hi
      obtain ⟨rfl,hk⟩:=D.inv_ref
      refine O ?_
      show wpAny _ _ _ (Post P fr env W Z s ((yN G (.ref k) f Z.toHp).st Z)) NoE s
      rw [e]
      exact qTz Q.cls I V h2 (Q.fld f u) hv (λ c hc=>qTw U hc) λ c t hc=>⟨_,Z,W,rfl,Step.toks I L t,hc⟩
     ·exact B (by unfold yN; rw [hi]; refine (c7 u).trans ?_; rw [hv]; exact d0 U)
   ·exact B (by unfold yN; rw [hi]; exact d0 u)
  | none =>
   by_cases u:f=("append" : Str)
   ·have e:yN G o f Z.toHp=(qFe Z.toHp o).elim .bad λ q=>.ok (.bnd q.1):=by unfold yN; rw [hi]; exact c7 u
    cases J:qFe Z.toHp o with
    | none=>exact B (by rw [e,J]; rfl)
    | some q =>
     obtain ⟨k,xs⟩:=q
     obtain ⟨rfl,hl⟩:=wQ J
     subst u
     have Y:zBv (.ref k) Z.toHp=okH (.bnd k) Z.toHp:=by unfold zBv; rw [J]; rfl
     have h:=zJc (A:=A) I L D (by rw [Y]; exact λ q=>nomatch q)
     rw [Y] at h
     refine O ?_
     show wpAny _ _ _ (Post P fr env W Z s ((yN G (.ref k) _ Z.toHp).st Z)) NoE s
     rw [e,J]
     exact h
   ·exact B (by unfold yN; rw [hi]; exact d0 u)
 ·intro fr A env F W Z s I L o f v X c H D hv hs E R T
  refine bC λ O=>?_
  obtain ⟨⟨k,d,fs⟩,hi,S⟩:=Option.bind_eq_some_iff.mp (show Option.bind _ _=_ from hs)
  obtain ⟨rfl,V,h2⟩:=wD hi
  obtain ⟨rfl,hk⟩:=D.inv_ref
  by_cases u:G.flds.contains f=true/\fs.length<=100
  ·cases (c7 u).symm.trans S
   exact O (qSo Q.cls I L F.hL V h2 (Q.fld f u.1) u.2 hv λ s' st=>T W s' st)
  ·exact zN1 ((d0 u).symm.trans S)
end
end Mine.Lake
namespace Mine.Lake
open PySem PySem.W PyProof.Rows
def zQl (K:Frag) (f:Addr) (sc:Scope) (ps:List Str) (body:List Stmt):Prop :=
 ∃ u,(∃ o:Obj,K.lookup f=some o/\o.data=.func u)/\u.scope=sc/\u.body=.stmts body/\u.closure=[]/\u.globals=r8/\u.builtins=aY/\(∃ (c:Addr) (o:Obj) (vs:Array g9) (t:Tok),u.code=.ref c/\K.lookup c=some o/\o.data=.fields vs/\vs[1]? = some (.str u.qualname t))/\wT sc ps=true /\
  ∀ cargs:Lv,cargs.length=ps.length->bindArgs u ⟨cargs,[]⟩=pure (ps.zip cargs)
def jI (K:Frag) (f:Addr) (sc:Scope) (ps:List Str) (b:S):Prop:=∃ body,zQl K f sc ps body/\TieS b sc (.l body)
noncomputable abbrev Rows:=List (Addr×Scope×List Str×S)
def zH (rows:Rows) (cx:Sx) (a:Addr) (args:List V) (H:Hp):Rs V:=match rows.lookup a with
 | some (sc,ps,b)=>jZ sc ps b cx args H
 | none=>.bad
noncomputable def noF:Fns:=λ q q q=>.bad
def qGd (G:Prg) (u:List V->Hp->Rs V) (fns:Fns):Fns:=λ a args H=>if a=G.C then qKk G.C u args H else fns a args H
noncomputable def noM:qVm:=λ q q q q q=>.bad
def zNo (cx:Sx):qVm:=λ ps x cs args H=>jY ps x cs cx.toCx args H
def tower (G:Prg) (rows:Rows) (fI:Addr):Nat->Sx
 | 0=>mk G 0 noF noM
 | 1=>mk G 1 (zH rows (tower G rows fI 0)) (zNo (tower G rows fI 0))
 | n+2=>mk G (n+2) (qGd G (zH rows (tower G rows fI n) fI) (zH rows (tower G rows fI (n+1)))) (zNo (tower G rows fI (n+1)))
section
variable {P:Par} {fr:Ln} {A:n6} {env:Env} {W W':Wd} {Z Z':St} {s s':d6} {cx:Sx} {G:Prg} {rows:Rows} {fI:Addr}
theorem wJ:∀ n,(tower G rows fI n).lvl=n
 | 0=>rfl
 | 1=>rfl
 | _+2=>rfl
theorem zPz {K:Frag} {f:Addr} {sc:Scope} {ps:List Str} {body:List Stmt} (X:K.In P.B) (O:P.B.NoLimit) (h:zQl K f sc ps body):∃ D,FnOk P f D ps body/\D.scope=sc:=by
 refine bC λ u=>?_
 obtain ⟨D,U,h2,h3,h4,h5,L,S,T,J⟩:=h
 refine u ?_
 refine ⟨D,⟨?_,O,?_,h3,h4,h5,L,λ s q cargs hc=>BindsTo.of_eq (J cargs hc),by rw [h2]; exact T⟩,h2⟩
 ·refine bC λ u=>?_
  obtain ⟨o,e1,e2⟩:=U
  refine u ?_
  exact ⟨o,X _ _ e1,e2⟩
 ·refine bC λ u=>?_
  obtain ⟨c,o,vs,t,e1,e2,e3,e4⟩:=S
  refine u ?_
  exact ⟨c,o,vs,t,e1,X _ _ e2,e3,e4⟩
abbrev qPh (K:Frag) (rows:Rows):Prop:=∀ a sc ps b,rows.lookup a=some (sc,ps,b)->jI K a sc ps b
set_option backward.match.sparseCases true in
theorem qDd (Xn:G.K.In P.B) (O:P.B.NoLimit) (U:qPh G.K rows) {cx:Sx} (C:SxOk P cx)
  (F:Fm P (cx.lvl+1) fr A env) (I:Inv P fr W Z.toHp s) (L:Loc P env W Z s.heap) {a:Addr} {args:List V} {cargs:Lv} (ha:VRs W Z.nxt args cargs) (u:(zH rows cx a args Z.toHp).lift Z≠.bad) :
  jT P.M A (.ref a) s/\codeAny P.M A (.call (.ref a) ⟨cargs,[]⟩) (λ r s'=>match r with | .ok (.ret v)=>Post P fr env W Z s ((zH rows cx a args Z.toHp).lift Z) v s' | .ok _=>False | .error e=>NoE e s') s:=by
 cases D:rows.lookup a with
 | none =>
  have:zH rows cx a args Z.toHp=.bad:=by unfold zH; rw [D]
  rw [this] at u; exact f8 rfl u
 | some r =>
  refine bC λ J=>?_
  obtain ⟨sc,ps,b⟩:=r
  refine J ?_
  have S:zH rows cx a args Z.toHp=jZ sc ps b cx args Z.toHp:=by unfold zH; rw [D]
  rw [S] at u ⊢
  refine bC λ J=>?_
  obtain ⟨body,hd,T⟩:=U _ _ _ _ D
  obtain ⟨X,K,rfl⟩:=zPz Xn O hd
  refine J ?_
  exact ⟨qTn K I,zBs K C T F I L ha u⟩
theorem zNb {lv:Nat}:zCm P lv noF:=λ fr A env F W Z s I L a args cargs ha u=>f8 rfl u
theorem zNa {lv:Nat}:qJi P lv noM:=λ fr A env F W Z s I L ps x cs B args cargs hv ha u=>f8 rfl u
theorem qQe (u:P.B.NoLimit) {cx:Sx} (C:SxOk P cx):qJi P (cx.lvl+1) (zNo cx) :=
 λ fr A env F W Z s I L ps x cs J args cargs hv ha D=>zBt C.base u F I L hv ha D
set_option backward.match.sparseCases true in
theorem yV (hp:P.ex=none) (Q:PrgOk P G) (u:P.B.NoLimit) (J:qPh G.K rows) (hi:findIn G.K (.ref G.C) "__init__" = some (some (.ref fI))) (O:typeIn G.K (.ref fI)=some (.type "function")) :
  ∀ n,SxOk P (tower G rows fI n)
 | 0=>qYs Q hp zNb zNa
 | 1=>by
  have C:=yV hp Q u J hi O 0
  have l1:=wJ (G:=G) (rows:=rows) (fI:=fI) 0
  have M:=qQe u C
  rw [l1] at M
  refine qYs Q hp (λ fr A env F W Z s I L a args cargs ha D=>?_) M
  obtain ⟨k,c⟩:=qDd Q.cls.inn u J C (by rw [l1]; exact F) I L ha D
  exact ⟨k,iN c⟩
 | n+2=>by
  have C:=yV hp Q u J hi O (n+1)
  have l1:=wJ (G:=G) (rows:=rows) (fI:=fI) (n+1)
  have M:=qQe u C
  rw [l1] at M
  have C':=yV hp Q u J hi O n
  have l3:=wJ (G:=G) (rows:=rows) (fI:=fI) n
  refine qYs Q hp (λ fr A env F W Z s I L a args cargs ha D=>?_) M
  revert D
  unfold qGd
  by_cases S:a=G.C
  ·subst S
   rw [c7 rfl]
   intro D
   refine make_inst (lv:=n+1) Q.cls hi O (λ fr A env F W Z s I L args cargs ha D=>?_) F I L ha D
   exact (qDd Q.cls.inn u J C' (by rw [l3]; exact F) I L ha D).2
  ·rw [d0 S]
   intro D
   obtain ⟨k,c⟩:=qDd Q.cls.inn u J C (by rw [l1]; exact F) I L ha D
   exact ⟨k,iN c⟩
end
theorem qFk:∀ (names:List (Str×s9)) (m:Nat) (ac:List (Str×Addr)),∀ p∈ac,p∈cellsFrom m names ac:=by
 intro names
 induction names with
 | nil=>exact λ q q q h=>h
 | cons hd D u =>
  intro m ac p h
  obtain ⟨y,B⟩:=hd
  unfold cellsFrom
  split
  ·exact u _ _ _ (.tail _ h)
  ·exact u _ _ _ h
theorem qIz {bv:List (Str×V)} {L:Nat}:∀ (names:List (Str×s9)) (acc:List (Str×Addr)) (cel:List (Str×Nat)) (H:Hp),(∀ k,H.nxt<=k->H.obj k=none)->(∀ x k,cel.lookup x=some k->k < H.nxt/\acc.lookup x=some (L+1+k)) ->
  (∀ k,(qN bv names H cel).1.nxt<=k->(qN bv names H cel).1.obj k=none)/\H.nxt<=(qN bv names H cel).1.nxt /\
  (∀ x k,(qN bv names H cel).2.lookup x=some k->k < (qN bv names H cel).1.nxt/\(cellsFrom (L+1+H.nxt) names acc).lookup x=some (L+1+k)) /\
  (∀ k,k < H.nxt->(qN bv names H cel).1.obj k=H.obj k) /\
  (∀ k,H.nxt<=k->k < (qN bv names H cel).1.nxt->∃ x,(x,L+1+k)∈cellsFrom (L+1+H.nxt) names acc/\(qN bv names H cel).1.obj k=some (.cell (bv.lookup x))/\(x,NameKind.cell)∈names)
 | [],acc,cel,H,h1,h2=>⟨h1,d7 _,h2,λ q q=>rfl,λ k a b=>f8 b (Nat.not_lt.mpr a)⟩
 | (x,kd)::r,acc,cel,H,h1,h2=>by
  rw [qEj]
  unfold cellsFrom
  by_cases hk:(kd == NameKind.cell)=true
  ·simp only [c7 hk]
   have X:=qIz (bv:=bv) (L:=L) r ((x,L+1+H.nxt)::acc) ((x,H.nxt)::cel) (H.add (.cell (bv.lookup x))) (λ k u=>by
     have B:H.nxt+1<=k:=u
     show (if k=H.nxt then _ else H.obj k)=none
     rw [d0 (by exact v9 B)]; exact h1 k (by exact n1 B)) (λ y k hy=>by
     simp only [i8] at hy ⊢
     cases T:y == x with
     | true=>rw [T] at hy; cases hy; exact ⟨n5 _,rfl⟩
     | false=>rw [T] at hy; exact ⟨k9 (h2 y k hy).1,(h2 y k hy).2⟩)
   have Y:L+1+(H.add (.cell (bv.lookup x))).nxt=L+1+H.nxt+1:=rfl
   rw [Y] at X
   obtain ⟨i1,i2,i3,i4,S⟩:=X
   have a0:H.nxt+1<=(qN bv r (H.add (.cell (bv.lookup x))) ((x,H.nxt)::cel)).1.nxt:=i2
   refine ⟨i1,by lia,i3,λ k u=>?_,λ k a b=>?_⟩
   ·rw [i4 k (k9 u)]
    show (if k=H.nxt then _ else H.obj k)=_
    rw [d0 (by exact r9 u)]
   ·by_cases U:k=H.nxt
    ·subst U
     refine ⟨x,qFk _ _ _ _ (.head _),?_,by rw [show kd=NameKind.cell from by simpa using hk]; exact .head _⟩
     rw [i4 _ (n5 _)]
     show (if H.nxt=H.nxt then _ else _)=_
     rw [c7 rfl]
    ·obtain ⟨y,D,J,O⟩:=S k (by show H.nxt+1<=k; lia) b
     exact ⟨y,D,J,.tail _ O⟩
  ·simp only [d0 hk]
   obtain ⟨i1,i2,i3,i4,S⟩:=qIz (bv:=bv) (L:=L) r acc cel H h1 h2
   exact ⟨i1,i2,i3,i4,λ k a b=>let ⟨y,D,J,O⟩:=S k a b; ⟨y,D,J,.tail _ O⟩⟩
theorem vS {names:List (Str×s9)} {y:Str} {v:V}:∀ {l:List (Str×V)},(l.filter (λ p=>names.lookup p.1 == some .local)).lookup y=some v->names.lookup y=some .local/\l.lookup y=some v
 | [],h=>zN1 h
 | (z,u)::tl,h=>by
  simp only [oK] at h
  cases D:(names.lookup z == some NameKind.local) with
  | true =>
   rw [D] at h
   simp only [i8] at h ⊢
   cases B:y == z with
   | true =>
    rw [B] at h
    have e:y=z:=by simpa using B
    subst e
    exact ⟨by simpa using D,h⟩
   | false=>rw [B] at h; exact vS h
  | false =>
   rw [D] at h
   obtain ⟨p1,p2⟩:=vS h
   refine ⟨p1,?_⟩
   simp only [i8]
   cases B:y == z with
   | true =>
    have e:y=z:=by simpa using B
    subst e
    rw [p1] at D; simp at D
   | false=>exact p2
theorem qEi {bv:List (Str×V)} {n:Nat}:∀ (names:List (Str×s9)) (H:Hp) (cel:List (Str×Nat)),n<=H.nxt->(∀ x k,cel.lookup x=some k->n<=k)->∀ x k,(qN bv names H cel).2.lookup x=some k->n<=k
 | [],_,_,_,h=>h
 | (y,kd)::r,H,cel,hn,h=>by
  rw [qEj]
  split
  ·refine qEi r _ _ (j6 hn) λ x k hx=>?_
   simp only [i8] at hx
   cases u:x == y with
   | true=>rw [u] at hx; cases hx; exact hn
   | false=>rw [u] at hx; exact h x k hx
  ·exact qEi r H cel hn h
noncomputable def W0 (T L:Nat) (fz:Nat->Option Obj):Wd:=⟨λ k=>if k=0 then T else L+k,fz⟩
noncomputable def H0 (q:Str):Hp:=⟨λ k=>if k=0 then some (.tab q) else none,1⟩
def qQc (sc:Scope) (q:Str) (bv:List (Str×V)):St:={ entryC sc bv (H0 q) with tbl:=some (0,q) }
theorem qWm {P:Par} {sc:Scope} {ps:List Str} {args:List V} {cargs:Lv} {u:Env} {s:d6} {T L cd:Nat} {q:Str} {fz:Nat->Option Obj} (a8:wT sc ps=true)
  (c1:u.scope=sc) (c2:u.locals=L) (c3:u.cells=cellsFrom (L+1) sc.names []) (c4:u.globals=r8) (c5:u.builtins=aY) (hL:P.B.objs.size=L) (ax:T < L)
  (hn:s.heap.Ns L (bindL u.kindOf (ps.zip cargs) λ z=>none)) (hk:∀ b o,P.B.get? b=some o->s.heap.get? b=some o)
  (hc:∀ x c,(x,c)∈cellsFrom (L+1) sc.names []->s.heap.IsCell c (bindC u.kindOf (ps.zip cargs) (λ z=>none) x))
  (a0:∀ a o,fz a=some o->P.B.get? a=some o) (ha:VRs (W0 T L fz) 0 args cargs) (hg:s.gens = #[]) (ho:s.os=P.os) (hp:P.ex=none) (ac:P.T=T)
  (hT:P.B.get? T=none) (a6:s.heap.get? T=some (tabObj #[])) (ah:u.code=.ref cd) (ag:CodeHd P.B cd T) (hq:u.qual++fB "<lambda>" = q) :
  Inv P [L] (W0 T L fz) (qQc sc q (ps.zip args)).toHp s/\Loc P u (W0 T L fz) (qQc sc q (ps.zip args)) s.heap/\ScOk sc u:=by
 simp only [wT,d8,j8,dO] at a8
 obtain ⟨⟨⟨⟨⟨⟨k1,k2⟩,k3⟩,k4⟩,k5⟩,k6⟩,k7⟩:=a8
 have O:∀ y,u.kindOf y=sc.names.lookup y:=λ y=>by unfold Env.kindOf; rw [c1]
 obtain ⟨L',a7⟩:∃ L',L=L'+1:=⟨L - 1,by lia⟩
 obtain ⟨i1,i2,i3,i4,i5⟩:=qIz (bv:=ps.zip args) (L:=L') sc.names [] [] (H0 q) (λ k hk=>by
  have ab:1<=k:=hk
  show (if k=0 then _ else _)=_
  rw [d0 (by exact v9 ab)]) (λ x k h=>zN1 h)
 have en:L'+1+(H0 q).nxt=L+1:=by rw [a7]; rfl
 rw [en] at i3 i5
 have ay:1<=(qN (ps.zip args) sc.names (H0 q) []).1.nxt:=i2
 have X:∀ a,L<=a->P.B.get? a=none:=λ a h=>dB (by simp [hL,h])
 have wl:Wle 0 (W0 T L fz) (W0 T L fz):=.refl ..
 have U:(W0 T L fz).ρ 0=T:=rfl
 have rs:∀ k,k≠0->(W0 T L fz).ρ k=L+k:=λ k h=>d0 h
 have a9:∀ k,k≠0->L'+1+k=(W0 T L fz).ρ k:=λ k h=>by rw [rs k h,a7]
 have o0:(qN (ps.zip args) sc.names (H0 q) []).1.obj 0=some (.tab q):=by
  rw [i4 0 (by show 0 < 1; simp)]; rfl
 have S:∀ k,k≠0->k < (qN (ps.zip args) sc.names (H0 q) []).1.nxt->∃ o J,(qN (ps.zip args) sc.names (H0 q) []).1.obj k=some o/\s.heap.get? ((W0 T L fz).ρ k)=some J/\OR (W0 T L fz) (qN (ps.zip args) sc.names (H0 q) []).1.nxt o J:=λ k aa h=>by
  obtain ⟨x,j1,j2,j3⟩:=i5 k (by show 1<=k; exact Nat.one_le_iff_ne_zero.mpr aa) h
  obtain ⟨J,e1,Y⟩:=hc x _ j1
  rw [a9 k aa] at e1
  refine ⟨_,J,j2,e1,?_⟩
  have ae:sc.names.lookup x=some .cell:=jM k4 j3
  rw [qEm (by rw [O,ae]; intro q; cases q) k6] at Y
  have hr:=wI x ps ha
  revert Y hr
  cases (ps.zip args).lookup x with
  | none=>cases (ps.zip cargs).lookup x with
   | none=>exact λ Y z=>.nocell Y
   | some _=>exact λ z q=>q.elim
  | some v=>cases (ps.zip cargs).lookup x with
   | none=>exact λ z q=>q.elim
   | some c=>exact λ Y q=>.cell Y (VR.mono wl (m9 _) q)
 have a4:OR (W0 T L fz) (qN (ps.zip args) sc.names (H0 q) []).1.nxt (.tab q) (tabObj #[]):=.tab ⟨trivial,λ pos cv e=>zN1 e⟩
 refine ⟨⟨hk,λ k z=>?_,λ k h=>?_,λ k z q=>?_,λ k z=>?_,λ i j z z q=>?_,λ k o h=>?_,λ a c h=>⟨hk a c (a0 a c h),λ q=>?_⟩,λ a h=>?_,hg,ho,(λ e J q=>by rw [hp] at q; cases q),⟨by show 0 < (qN (ps.zip args) sc.names (H0 q) []).1.nxt; lia,ac.symm⟩⟩,⟨by rw [c1]; exact k1,c4,c5,⟨_,by rw [c2]; exact hn,λ y v h=>?_⟩,λ y k h=>?_,λ k q' h=>?_⟩,?_⟩
 ·by_cases D:k=0
  ·subst D; rw [U]; exact hT
  ·rw [rs k D]; exact X _ (by exact n4 _ _)
 ·by_cases D:k=0
  ·subst D; rw [U]; exact ⟨_,a6⟩
  ·obtain ⟨o,J,_,e,_⟩:=S k D h; exact ⟨J,e⟩
 ·have q':(W0 T L fz).ρ k=L:=by simpa using q
  by_cases D:k=0
  ·subst D; rw [U] at q'; simp_all
  ·rw [rs k D] at q'; lia
 ·cases hq:fz ((W0 T L fz).ρ k) with
  | none=>exact hq
  | some o =>
   have:=a0 _ _ hq
   by_cases D:k=0
   ·subst D; rw [U,hT] at this; cases this
   ·rw [rs k D,X _ (by exact n4 _ _)] at this; cases this
 ·by_cases hi:i=0 <;> by_cases hj:j=0
  ·rw [hi,hj]
  ·subst hi; rw [U,rs j hj] at q; lia
  ·subst hj; rw [U,rs i hi] at q; lia
  ·rw [rs i hi,rs j hj] at q; lia
 ·have a3:k < (qN (ps.zip args) sc.names (H0 q) []).1.nxt:=by
   refine Nat.not_le.mp λ aj=>?_
   have h':(qN (ps.zip args) sc.names (H0 q) []).1.obj k=some o:=h
   rw [i1 k aj] at h'; cases h'
  have h':(qN (ps.zip args) sc.names (H0 q) []).1.obj k=some o:=h
  by_cases D:k=0
  ·subst D
   rw [o0] at h'; cases h'
   exact ⟨a3,_,by rw [U]; exact a6,a4⟩
  ·obtain ⟨o',J,e0,e1,e2⟩:=S k D a3
   rw [e0] at h'; cases h'
   exact ⟨a3,J,e1,e2⟩
 ·have:a=L:=by simpa using q
  subst this
  have:=a0 a c h
  rw [X a (d7 _)] at this; cases this
 ·have:a=L:=by simpa using h
  subst this
  obtain ⟨o,es,ep,e1,e2,_⟩:=hn
  exact ⟨X a (d7 _),o,e1,λ vs q=>by rw [e2] at q; cases q⟩
 ·obtain ⟨p1,p2⟩:=vS (names:=sc.names) h
  have hr:=wI y ps ha
  rw [p2] at hr
  refine ⟨by rw [O]; exact p1,?_⟩
  cases h1:(ps.zip cargs).lookup y with
  | none=>rw [h1] at hr; exact hr.elim
  | some c =>
   rw [h1] at hr
   refine ⟨c,?_,VR.mono wl (m9 _) hr⟩
   rw [qEl k6,O,p1,h1]
   rfl
 ·obtain ⟨p,q'⟩:=i3 y k h
  refine ⟨p,λ z=>?_⟩
  rw [c3,q']
  have h1:=qEi (bv:=ps.zip args) (n:=1) sc.names (H0 q) [] (d7 _) (λ x k h=>zN1 h) y k h
  rw [a9 k (by exact v9 h1)]
 ·cases h
  exact ⟨by show 0 < (qN (ps.zip args) sc.names (H0 q) []).1.nxt; lia,hq,cd,ah,by rw [U]; exact ag⟩
 ·refine ⟨λ y h=>by rw [O]; exact h,λ y h=>by rw [O]; exact h,λ y h=>by rw [O]; exact h,λ y h=>by rw [O]; exact h,λ y h=>?_⟩
  rw [O] at h
  rw [c3]
  rcases h with h | h
  ·exact Option.isSome_iff_exists.mp (vE (n:=L+1) (acc:=[]) (.inr (zJ h)))
  ·have:=List.all_eq_true.mp k5 _ (zJ h)
   simp at this
theorem zHo {P:Par} {sc:Scope} {ps:List Str} {args:List V} {cargs:Lv} {u:Env} {s:d6} {T L cd:Nat} {q:Str} {fz:Nat->Option Obj} {cx:Sx} {b:S} {body:List Stmt} {v:V} {Z':St} {Q:Flow->d6->Prop} {E:Pv}
  (a8:wT sc ps=true) (c1:u.scope=sc) (c2:u.locals=L) (c3:u.cells=cellsFrom (L+1) sc.names []) (c4:u.globals=r8) (c5:u.builtins=aY) (c6:u.frame=some L) (hL:P.B.objs.size=L) (a9:T < L)
  (hn:s.heap.Ns L (bindL u.kindOf (ps.zip cargs) λ z=>none)) (hk:∀ b o,P.B.get? b=some o->s.heap.get? b=some o)
  (hc:∀ x c,(x,c)∈cellsFrom (L+1) sc.names []->s.heap.IsCell c (bindC u.kindOf (ps.zip cargs) (λ z=>none) x))
  (a2:∀ a o,fz a=some o->P.B.get? a=some o) (ha:VRs (W0 T L fz) 0 args cargs) (hg:s.gens = #[]) (ho:s.os=P.os)
  (hT:P.B.get? T=none) (a0:s.heap.get? T=some (tabObj #[])) (a6:u.code=.ref cd) (a5:CodeHd P.B cd T) (hq:u.qual++fB "<lambda>" = q)
  (hp:P.ex=none) (a4:P.T=T) (C:SxOk P cx) (O:cx.lvl<=20) (hb:TieS b sc (.l body)) (J:ex b cx (qQc sc q (ps.zip args))=.ok (.ret v) Z') (X:Z'.obj 0=some (.tab q))
  (hQ:∀ W c s' a3,VR W Z'.nxt v c->(∀ b o,P.B.get? b=some o->s'.heap.get? b=some o)->s'.heap.get? T=some (tabObj a3)->s'.os=P.os->s'.gens = #[]->Q (.ret c) s') :
  wpAny P.M (callerA.deeper u) (execs body u) Q E s:=by
 obtain ⟨I,Lc,Sc⟩:=qWm a8 c1 c2 c3 c4 c5 hL a9 hn hk hc a2 ha hg ho hp a4 hT a0 a6 a5 hq
 have U:sc.kind=.function:=Lc.kind ▸ c1 ▸ rfl
 have F:FmS P cx.lvl [L] (callerA.deeper u) u:=by
  refine ⟨⟨by rw [c2]; exact .head _,.inl ⟨hp,rfl⟩,?_,?_,[u],rfl,λ e he=>?_⟩,⟨[],rfl⟩,by rw [c2]; exact c6⟩
  ·show 4+3+20 * cx.lvl+200 < cLine
   unfold cLine; exact m_c5 O
  ·show 1+claimMargin+1+10 * cx.lvl+100 < iE
   have:1+claimMargin+1+10 * 20+100 < iE:=by decide
   exact m_c6 O this
  ·have:e=u:=by simpa using he
   subst this
   exact ⟨by rw [c1,U]; decide,L,c6,.head _⟩
 refine j0 (qWq hb cx C [L] _ u F Sc (W0 T L fz) _ s I Lc (by rw [J]; intro q; cases q)) (λ f s' ⟨v',a7,aE,e,st,hf⟩=>?_) (λ e s' h=>h.elim)
 rw [J] at e
 cases e
 obtain ⟨_,ob,D,h2⟩:=st.inv.obj 0 _ X
 have h0:aE.ρ 0=T:=st.nx.wle.ρ 0 (by
  show 0 < (qN (ps.zip args) sc.names (H0 q) []).1.nxt
  have:=(qIz (bv:=ps.zip args) (L:=0) sc.names [] [] (H0 q) (λ k hk=>by
   have Y:1<=k:=hk
   show (if k=0 then _ else _)=_
   rw [d0 (by exact v9 Y)]) (λ x k h=>zN1 h)).2.1
  have D:1<=(qN (ps.zip args) sc.names (H0 q) []).1.nxt:=this
  exact D)
 rw [h0] at D
 cases h2 with
 | tab hR =>
 cases hf with
 | ret hv=>exact hQ aE _ s' _ hv st.inv.keep D st.inv.os st.inv.gens
end Mine.Lake
namespace Mine.Lake.L09
open PySem PySem.W PyProof.Rows Mine.Lake MineTop
noncomputable def zNn:X:=(.call (.glob "len") (.cons (.var "script") .nil))
noncomputable def zAd:X:=(.comp (.var "k") "k" (.var "every") (.cmp .NotEq (.idx (.cv "notes") (.var "k")) (.int 2)))
noncomputable def zBm:X:=(.comp (.idx (.cv "tokens") (.bin .Mod (.var "x") (.int 20))) "x" (.slc (.var "script") .none (.int 18)) (.bool true))
noncomputable def qFo:X:=(.cmp .Eq (.idx (.cv "notes") (.meth (.slc (.cv "text") .none (.var "place")) "count" (.cons (.str "\n") .nil))) (.int 2))
noncomputable def zKh:S:=(.ite (.cmp .NotEq (.var "groups") (.list .nil)) (.seq (.expr (.meth (.idx (.var "groups") (.neg (.int 1))) "append" (.cons (.var "k") .nil))) .nil) .nil)
noncomputable def zIx:S:=(.ite (.cmp .Eq (.slc (.idx (.var "rows") (.var "k")) (.neg (.int 1)) .none) (.str ":")) (.seq (.expr (.meth (.var "groups") "append" (.cons (.newl .nil) .nil))) .nil) .nil)
noncomputable def zPa:X:=(.call (.glob "sum") (.cons (.comp (.bin .Add (.call (.glob "len") (.cons (.var "row") .nil)) (.int 1)) "row" (.slc (.var "rows") .none (.var "number")) (.bool true)) .nil))
noncomputable def qOg:X:=(.comp (.var "group") "group" (.slc (.var "groups") (.neg (.int 5)) .none) (.and (.cmp .NotEq (.var "group") (.list .nil)) (.cmp .In (.idx (.var "group") (.int 0)) (.cv "free"))))
noncomputable def inE:S:=(.seq (.ite (.cmp .Eq (.bin .Sub (.var "lno") (.int 1)) (.var "firstlno")) (.seq (.asg "continuation" (.glob "C_STRING_FIRST_LINE")) .nil) (.seq (.asg "continuation" (.glob "C_STRING_NEXT_LINES")) .nil)) .nil)
noncomputable def qYm:S:=(.ite (.cmp .Eq (.idx (.var "eaten") (.neg (.int 1))) (.str "\n")) (.seq (.ite (.cmp .NotEq (.var "mode") (.str "")) (.seq (.expr (.meth (.var "notes") "append" (.cons (.int 2) .nil))) .nil) (.seq (.expr (.meth (.var "notes") "append" (.cons (.bin .Sub (.call (.glob "len") (.cons (.var "eaten") .nil)) (.int 1)) .nil))) .nil)) .nil) .nil)
noncomputable def zAp:S:=(.seq (.setA (.var "self") "continuation" (.var "continuation")) (.seq (.assert (.cmp .Eq (.cmp .Eq (.var "continuation") (.glob "C_NONE")) (.cmp .Eq (.idx (.var "goodlines") (.neg (.int 1))) (.var "lno")))) (.seq (.ite (.cmp .NotEq (.idx (.var "goodlines") (.neg (.int 1))) (.var "lno")) (.seq (.expr (.call (.var "push_good") (.cons (.var "lno") .nil))) .nil) .nil) .nil)))
noncomputable def zOe:S:=(.ite (.cmp .Eq (.idx (.cv "notes") (.neg (.int 1))) (.int 2)) (.seq (.asg "due" (.ite (.cmp .Eq (.var "opened") (.bin .Sub (.call (.glob "len") (.cons (.var "rows") .nil)) (.int 1))) (.glob "C_STRING_FIRST_LINE") (.glob "C_STRING_NEXT_LINES"))) .nil) (.seq (.asg "due" (.ite (.cmp .Eq (.idx (.cv "notes") (.neg (.int 1))) (.int 1)) (.glob "C_BACKSLASH") (.glob "C_NONE"))) .nil))
def zCa:S:=(.ite (.cmp .Is (.var "number") .none) (.seq (.ite (.cmp .IsNot (.var "found") .none) (.seq (.ret (.bool false)) .nil) .nil) .nil) (.seq (.ite (.cmp .NotEq (.var "found") zPa) (.seq (.ret (.bool false)) .nil) .nil) .nil))
def qVr:S:=(.ite (.cmp .In (.call (.glob "_law_first_word") (.cons (.idx (.var "rows") (.var "k")) .nil)) (.list (.cons (.str "def") (.cons (.str "else") (.cons (.str "try") (.cons (.str "return") (.cons (.str "\x69mport") (.cons (.str "class") .nil)))))))) (.seq (.expr (.meth (.var "every") "append" (.cons (.var "k") .nil))) (.seq zKh .nil)) .nil)
noncomputable def zLp:S:=(.seq (.ite (.cmp .Eq (.var "ch") (.str "#")) (.seq (.asg "i" (.meth (.var "code") "find" (.cons (.str "\n") (.cons (.var "i") .nil)))) (.seq (.assert (.cmp .GtE (.var "i") (.int 0))) (.seq .cont .nil))) .nil) (.seq (.assert (.cmp .Eq (.var "ch") (.str "\\"))) (.seq (.assert (.cmp .Lt (.var "i") (.var "n"))) (.seq (.ite (.cmp .Eq (.idx (.var "code") (.var "i")) (.str "\n")) (.seq (.asg "lno" (.bin .Add (.var "lno") (.int 1))) (.seq (.ite (.cmp .Eq (.bin .Add (.var "i") (.int 1)) (.var "n")) (.seq (.asg "continuation" (.glob "C_BACKSLASH")) .nil) .nil) .nil)) .nil) (.seq (.asg "i" (.bin .Add (.var "i") (.int 1))) .nil)))))
def zQc:S:=(.seq (.ite (.and (.cmp .NotEq (.var "continuation") (.glob "C_STRING_FIRST_LINE")) (.and (.cmp .NotEq (.var "continuation") (.glob "C_STRING_NEXT_LINES")) (.cmp .Gt (.var "level") (.int 0)))) (.seq (.asg "continuation" (.glob "C_BRACKET")) .nil) .nil) zAp)
noncomputable def qUg:S:=(.seq (.expr (.meth (.var "parser") "set_lo" (.cons (.or (.var "found") (.int 0)) .nil))) (.seq (.asgC "first" (.or (.var "number") (.int 0))) (.seq (.ite (.cmp .NotEq (.meth (.var "parser") "get_continuation_type" .nil) (.var "due")) (.seq (.ret (.bool false)) .nil) .nil) (.seq (.asg "begun" (.comp (.var "k") "k" (.call (.glob "range") (.cons (.bin .Add (.cv "first") (.int 1)) (.cons (.call (.glob "len") (.cons (.var "rows") .nil)) .nil))) (.cmp .Eq (.idx (.cv "notes") (.var "k")) (.int 0)))) (.seq (.ret (.cmp .Eq (.comp (.bin .Add (.cv "first") (.var "k")) "k" (.attr (.var "parser") "goodlines") (.bool true)) (.bin .Add (.bin .Add (.list (.cons (.cv "first") .nil)) (.var "begun")) (.list (.cons (.call (.glob "len") (.cons (.var "rows") .nil)) .nil))))) .nil)))))
noncomputable def inB:S:=(.seq (.asg "ch" (.idx (.var "code") (.var "i"))) (.seq (.asg "i" (.bin .Add (.var "i") (.int 1))) (.seq (.ite (.cmp .Eq (.var "ch") (.str "x")) (.seq .cont .nil) .nil) (.seq (.ite (.cmp .Eq (.slc (.var "code") (.bin .Sub (.var "i") (.int 1)) (.bin .Add (.var "i") (.var "w"))) (.var "quote")) (.seq (.asg "i" (.bin .Add (.var "i") (.var "w"))) (.seq .brk .nil)) .nil) (.seq (.ite (.cmp .Eq (.var "ch") (.str "\n")) (.seq (.asg "lno" (.bin .Add (.var "lno") (.int 1))) (.seq (.ite (.cmp .Eq (.var "w") (.int 0)) (.seq (.ite (.cmp .Eq (.var "level") (.int 0)) (.seq (.expr (.call (.var "push_good") (.cons (.var "lno") .nil))) .nil) .nil) (.seq .brk .nil)) .nil) (.seq .cont .nil))) .nil) (.seq (.ite (.cmp .Eq (.var "ch") (.str "\\")) (.seq (.assert (.cmp .Lt (.var "i") (.var "n"))) (.seq (.ite (.cmp .Eq (.idx (.var "code") (.var "i")) (.str "\n")) (.seq (.asg "lno" (.bin .Add (.var "lno") (.int 1))) .nil) .nil) (.seq (.asg "i" (.bin .Add (.var "i") (.int 1))) (.seq .cont .nil)))) .nil) .nil))))))
noncomputable def qWl:S:=(.ite (.cmp .Eq (.var "mode") (.str "#")) (.seq (.ite (.cmp .Eq (.var "sign") (.str "\n")) (.seq (.asg "mode" (.str "")) .nil) .nil) .nil) (.seq (.ite (.cmp .Eq (.var "sign") (.str "\\")) (.seq (.asg "size" (.int 2)) .nil) (.seq (.ite (.and (.cmp .NotEq (.var "mode") (.str "")) (.cmp .Eq (.slc (.var "text") (.var "place") (.bin .Add (.var "place") (.call (.glob "len") (.cons (.var "mode") .nil)))) (.var "mode"))) (.seq (.asg "size" (.call (.glob "len") (.cons (.var "mode") .nil))) (.seq (.asg "mode" (.str "")) .nil)) (.seq (.ite (.and (.cmp .Eq (.var "mode") (.str "")) (.cmp .In (.var "sign") (.str "'\"#"))) (.seq (.ite (.and (.cmp .NotEq (.var "sign") (.str "#")) (.cmp .Eq (.slc (.var "text") (.var "place") (.bin .Add (.var "place") (.int 3))) (.bin .Mult (.var "sign") (.int 3)))) (.seq (.asg "size" (.int 3)) .nil) .nil) (.seq (.asg "mode" (.slc (.var "text") (.var "place") (.bin .Add (.var "place") (.var "size")))) (.seq (.asg "opened" (.bin .Sub (.call (.glob "len") (.cons (.var "notes") .nil)) (.int 1))) .nil))) (.seq (.ite (.and (.cmp .Eq (.var "sign") (.str "\n")) (.cmp .Eq (.call (.glob "len") (.cons (.var "mode") .nil)) (.int 1))) (.seq (.asg "mode" (.str "")) .nil) .nil) .nil)) .nil)) .nil)) .nil))
def inL:S:=(.loop 1000 (.cmp .Lt (.var "i") (.var "n")) inB inE)
def zEp:S:=(.seq (.asg "firstlno" (.var "lno")) (.seq (.asg "w" (.bin .Sub (.call (.glob "len") (.cons (.var "quote") .nil)) (.int 1))) (.seq (.asg "i" (.bin .Add (.var "i") (.var "w"))) (.seq inL (.seq .cont .nil)))))
def endB:S:=(.seq (.asg "parser" (.call (.glob "Parser") (.cons (.int 4) (.cons (.int 8) .nil)))) (.seq (.expr (.meth (.var "parser") "set_code" (.cons (.cv "text") .nil))) (.seq (.asg "found" (.meth (.var "parser") "find_good_parse_start" (.cons (.lam ["place"] qFo) .nil))) (.seq (.asg "number" (.call (.glob "_law_number") (.cons (.var "rows") (.cons (.cv "notes") .nil)))) (.seq zCa qUg)))))
def zPd:S:=(.seq (.asg "quote" (.var "ch")) (.seq (.ite (.cmp .Eq (.slc (.var "code") (.bin .Sub (.var "i") (.int 1)) (.bin .Add (.var "i") (.int 2))) (.bin .Mult (.var "quote") (.int 3))) (.seq (.asg "quote" (.bin .Mult (.var "quote") (.int 3))) .nil) .nil) zEp))
def zJz:S:=(.seq (.asg "sign" (.idx (.var "text") (.var "place"))) (.seq (.asg "size" (.int 1)) (.seq qWl (.seq (.asg "eaten" (.slc (.var "text") (.var "place") (.bin .Add (.var "place") (.var "size")))) (.seq (.aug "place" (.var "size")) (.seq qYm .nil))))))
def zJy:S:=(.loop 1000 (.cmp .Lt (.var "place") (.call (.glob "len") (.cons (.var "text") .nil))) zJz .nil)
def zLr:S:=(.seq (.asg "ch" (.idx (.var "code") (.var "i"))) (.seq (.asg "i" (.bin .Add (.var "i") (.int 1))) (.seq (.ite (.cmp .Eq (.var "ch") (.str "x")) (.seq .cont .nil) .nil) (.seq (.ite (.cmp .Eq (.var "ch") (.str "\n")) (.seq (.asg "lno" (.bin .Add (.var "lno") (.int 1))) (.seq (.ite (.cmp .Eq (.var "level") (.int 0)) (.seq (.expr (.call (.var "push_good") (.cons (.var "lno") .nil))) .nil) .nil) (.seq .cont .nil))) .nil) (.seq (.ite (.cmp .Eq (.var "ch") (.str "(")) (.seq (.asg "level" (.bin .Add (.var "level") (.int 1))) (.seq .cont .nil)) .nil) (.seq (.ite (.cmp .Eq (.var "ch") (.str ")")) (.seq (.ite (.var "level") (.seq (.asg "level" (.bin .Sub (.var "level") (.int 1))) .nil) .nil) (.seq .cont .nil)) .nil) (.seq (.ite (.or (.cmp .Eq (.var "ch") (.str "\"")) (.cmp .Eq (.var "ch") (.str "'"))) zPd .nil) zLp)))))))
def zPk:S:=(.loop 1000 (.cmp .Lt (.var "i") (.var "n")) zLr .nil)
def qOz:S:=(.seq (.asg "continuation" (.glob "C_NONE")) (.seq (.asgs "level" "lno" (.int 0)) (.seq (.ownA (.var "self") "goodlines" "goodlines" (.list (.cons (.int 0) .nil))) (.seq (.asg "push_good" (.attr (.var "goodlines") "append")) (.seq (.asg2 "i" "n" (.tup (.cons (.int 0) (.cons (.call (.glob "len") (.cons (.var "code") .nil)) .nil)))) (.seq zPk zQc))))))
noncomputable def qIj:S:=(.seq (.setA (.var "self") "indentwidth" (.var "indentwidth")) (.seq (.setA (.var "self") "tabwidth" (.var "tabwidth")) .nil))
noncomputable def qQh:Scope:={ kind:=.function,names:=[("self", .local),("indentwidth", .local),("tabwidth", .local)],isGenerator:=false,isCoroutine:=false }
theorem zLm (p:bA):jI (K p) 137 qQh ["self", "indentwidth", "tabwidth"] qIj :=
 ⟨_,⟨_,⟨_,rfl,rfl⟩,rfl,rfl,rfl,rfl,rfl,⟨_,_,_,_,rfl,rfl,rfl,rfl⟩,by decide +kernel,λ cargs h=>by obtain ⟨a,b,c,rfl⟩:=zRd h; rfl⟩,by (repeat' first | exact rfl | decide +kernel | exact zI | exact (λ q q q=>rfl) | exact ⟨_,_,rfl⟩ | constructor)⟩
noncomputable def qAa:S:=(.seq (.assert (.or (.cmp .Eq (.call (.glob "len") (.cons (.var "s") .nil)) (.int 0)) (.cmp .Eq (.idx (.var "s") (.neg (.int 1))) (.str "\n")))) (.seq (.setA (.var "self") "code" (.var "s")) (.seq (.setA (.var "self") "study_level" (.int 0)) .nil)))
noncomputable def qCz:Scope:={ kind:=.function,names:=[("self", .local),("s", .local),("len", .globalImplicit)],isGenerator:=false,isCoroutine:=false }
theorem zLl (p:bA):jI (K p) 144 qCz ["self", "s"] qAa :=
 ⟨_,⟨_,⟨_,rfl,rfl⟩,rfl,rfl,rfl,rfl,rfl,⟨_,_,_,_,rfl,rfl,rfl,rfl⟩,by decide +kernel,λ cargs h=>by obtain ⟨a,b,rfl⟩:=qZe h; rfl⟩,by (repeat' first | exact rfl | decide +kernel | exact zI | exact (λ q q q=>rfl) | exact ⟨_,_,rfl⟩ | constructor)⟩
noncomputable def qJb:S:=(.seq (.asg "i" (.meth (.var "code") "rfind" (.cons (.str ":\n") (.cons (.int 0) (.cons (.var "limit") .nil))))) (.seq (.ite (.cmp .Lt (.var "i") (.int 0)) (.seq .brk .nil) .nil) (.seq (.asg "i" (.bin .Add (.meth (.var "code") "rfind" (.cons (.str "\n") (.cons (.int 0) (.cons (.var "i") .nil)))) (.int 1))) (.seq (.asg "m" (.call (.glob "_synchre") (.cons (.var "code") (.cons (.var "i") (.cons (.var "limit") .nil))))) (.seq (.ite (.and (.var "m") (.not (.call (.var "is_char_in_string") (.cons (.meth (.var "m") "start" .nil) .nil)))) (.seq (.asg "pos" (.meth (.var "m") "start" .nil)) (.seq .brk .nil)) .nil) (.seq (.asg "limit" (.var "i")) .nil))))))
def qIu:S:=(.each "tries" (.call (.glob "range") (.cons (.int 5) .nil)) qJb)
noncomputable def qDl:S:=(.seq (.asg "m" (.call (.glob "_synchre") (.cons (.var "code") .nil))) (.seq (.ite (.and (.var "m") (.not (.call (.var "is_char_in_string") (.cons (.meth (.var "m") "start" .nil) .nil)))) (.seq (.asg "pos" (.meth (.var "m") "start" .nil)) .nil) .nil) (.seq (.ret (.var "pos")) .nil)))
noncomputable def qBv:S:=(.seq (.asg2 "s" "i" (.meth (.var "m") "span" .nil)) (.seq (.ite (.not (.call (.var "is_char_in_string") (.cons (.var "s") .nil))) (.seq (.asg "pos" (.var "s")) .nil) .nil) .nil))
def qBu:S:=(.loop 1000 (.named "m" (.call (.glob "_synchre") (.cons (.var "code") (.cons (.var "i") .nil)))) qBv .nil)
def yO:S:=(.seq (.asg2 "code" "pos" (.tup (.cons (.attr (.var "self") "code") (.cons .none .nil)))) (.seq (.asg "limit" (.call (.glob "len") (.cons (.var "code") .nil))) (.seq qIu (.seq (.ite (.cmp .Is (.var "pos") .none) qDl .nil) (.seq (.asg "i" (.bin .Add (.var "pos") (.int 1))) (.seq qBu (.seq (.ret (.var "pos")) .nil)))))))
noncomputable def qQr:Scope:={ kind:=.function,names:=[("self", .local),("is_char_in_string", .local),("code", .local),("pos", .local),("limit", .local),("tries", .local),("i", .local),("m", .local),("s", .local),("len", .globalImplicit),("range", .globalImplicit),("_synchre", .globalImplicit)],isGenerator:=false,isCoroutine:=false }
theorem zLk (p:bA):jI (K p) 151 qQr ["self", "is_char_in_string"] yO :=
 ⟨_,⟨_,⟨_,rfl,rfl⟩,rfl,rfl,rfl,rfl,rfl,⟨_,_,_,_,rfl,rfl,rfl,rfl⟩,by decide +kernel,λ cargs h=>by obtain ⟨a,b,rfl⟩:=qZe h; rfl⟩,by (repeat' first | exact rfl | decide +kernel | exact zI | exact (λ q q q=>rfl) | exact ⟨_,_,rfl⟩ | constructor)⟩
noncomputable def qHj:S:=(.seq (.assert (.or (.cmp .Eq (.var "lo") (.int 0)) (.cmp .Eq (.idx (.attr (.var "self") "code") (.bin .Sub (.var "lo") (.int 1))) (.str "\n")))) (.seq (.ite (.cmp .Gt (.var "lo") (.int 0)) (.seq (.setA (.var "self") "code" (.slc (.attr (.var "self") "code") (.var "lo") .none)) .nil) .nil) .nil))
noncomputable def qKc:Scope:={ kind:=.function,names:=[("self", .local),("lo", .local)],isGenerator:=false,isCoroutine:=false }
theorem zLj (p:bA):jI (K p) 158 qKc ["self", "lo"] qHj :=
 ⟨_,⟨_,⟨_,rfl,rfl⟩,rfl,rfl,rfl,rfl,rfl,⟨_,_,_,_,rfl,rfl,rfl,rfl⟩,by decide +kernel,λ cargs h=>by obtain ⟨a,b,rfl⟩:=qZe h; rfl⟩,by (repeat' first | exact rfl | decide +kernel | exact zI | exact (λ q q q=>rfl) | exact ⟨_,_,rfl⟩ | constructor)⟩
def yW:S:=(.seq (.ite (.cmp .GtE (.attr (.var "self") "study_level") (.int 1)) (.seq .ret0 .nil) .nil) (.seq (.setA (.var "self") "study_level" (.int 1)) (.seq (.asg "code" (.attr (.var "self") "code")) (.sq "code" "trans" [("xxxxxxxx", "x"),("xxxx", "x"),("xx", "x"),("xx", "x"),("\nx", "\n")] qOz))))
noncomputable def qFq:Scope:={ kind:=.function,names:=[("self", .local),("code", .local),("continuation", .local),("level", .local),("lno", .local),("goodlines", .local),("push_good", .local),("i", .local),("n", .local),("ch", .local),("quote", .local),("firstlno", .local),("w", .local),("trans", .globalImplicit),("C_NONE", .globalImplicit),("len", .globalImplicit),("C_STRING_FIRST_LINE", .globalImplicit),("C_STRING_NEXT_LINES", .globalImplicit),("C_BACKSLASH", .globalImplicit),("C_BRACKET", .globalImplicit)],isGenerator:=false,isCoroutine:=false }
theorem zLi (p:bA):jI (K p) 165 qFq ["self"] yW :=
 ⟨_,⟨_,⟨_,rfl,rfl⟩,rfl,rfl,rfl,rfl,rfl,⟨_,_,_,_,rfl,rfl,rfl,rfl⟩,by decide +kernel,λ cargs h=>by obtain ⟨a,rfl⟩:=qNz h; rfl⟩,by (repeat' first | exact rfl | decide +kernel | exact zI | exact (λ q q q=>rfl) | exact ⟨_,_,rfl⟩ | constructor)⟩
noncomputable def qOh:S:=(.seq (.expr (.meth (.var "self") "_study1" .nil)) (.seq (.ret (.attr (.var "self") "continuation")) .nil))
noncomputable def qQn:Scope:={ kind:=.function,names:=[("self", .local)],isGenerator:=false,isCoroutine:=false }
theorem zLh (p:bA):jI (K p) 172 qQn ["self"] qOh :=
 ⟨_,⟨_,⟨_,rfl,rfl⟩,rfl,rfl,rfl,rfl,rfl,⟨_,_,_,_,rfl,rfl,rfl,rfl⟩,by decide +kernel,λ cargs h=>by obtain ⟨a,rfl⟩:=qNz h; rfl⟩,by (repeat' first | exact rfl | decide +kernel | exact zI | exact (λ q q q=>rfl) | exact ⟨_,_,rfl⟩ | constructor)⟩
def qCe:S:=(.seq (.asgC "tokens" (.list (.cons (.str "def f:\n") (.cons (.str "else\n") (.cons (.str "try: ") (.cons (.str "\n") (.cons (.str ":\n") (.cons (.str "'") (.cons (.str "\"") (.cons (.str "'''") (.cons (.str "\"\"\"") (.cons (.str "'''\n") (.cons (.str "\"\"\"\n") (.cons (.str "\\") (.cons (.str "\\\n") (.cons (.str "#") (.cons (.str " ") (.cons (.str "x") (.cons (.str "\treturn\n") (.cons (.str "\x69mport\n") (.cons (.str "''") (.cons (.str "\"\n") .nil)))))))))))))))))))))) (.seq (.asg "text" (.idx (.list (.cons (.str "x\n") (.cons (.str "") (.cons (.str "") (.cons (.str "") .nil))))) (.bin .Mod (.bin .FloorDiv zNn (.int 4)) (.int 4)))) (.seq (.aug "text" (.meth (.str "") "join" (.cons zBm .nil))) (.seq (.ret (.bin .Add (.var "text") (.idx (.list (.cons (.str "class c:\n") (.cons (.str "\n") (.cons (.str "\\\n") (.cons (.str "'''\n") .nil))))) (.bin .Mod zNn (.int 4))))) .nil))))
noncomputable def ltext_sc:Scope:={ kind:=.function,names:=[("script", .local),("tokens", .cell),("text", .local),("len", .globalImplicit)],isGenerator:=false,isCoroutine:=false,more:=[("fast", .str "script"),("fast", .str "tokens"),("fast", .str "text"),("fast", .str "x")] }
theorem zLg (p:bA):jI (K p) 240 ltext_sc ["script"] qCe :=
 ⟨_,⟨_,⟨_,rfl,rfl⟩,rfl,rfl,rfl,rfl,rfl,⟨_,_,_,_,rfl,rfl,rfl,rfl⟩,by decide +kernel,λ cargs h=>by obtain ⟨a,rfl⟩:=qNz h; rfl⟩,by (repeat' first | exact rfl | decide +kernel | exact zI | exact (λ q q q=>rfl) | exact ⟨_,_,rfl⟩ | constructor)⟩
def qIb:S:=(.seq (.own "notes" (.list (.cons (.int 0) .nil))) (.seq (.asg "mode" (.str "")) (.seq (.asg "opened" (.int 0)) (.seq (.asg "place" (.int 0)) (.seq zJy (.seq (.ret (.tup (.cons (.var "notes") (.cons (.var "opened") .nil)))) .nil))))))
noncomputable def qKm:Scope:={ kind:=.function,names:=[("text", .local),("notes", .local),("mode", .local),("opened", .local),("place", .local),("sign", .local),("size", .local),("eaten", .local),("len", .globalImplicit)],isGenerator:=false,isCoroutine:=false }
theorem zLf (p:bA):jI (K p) 247 qKm ["text"] qIb :=
 ⟨_,⟨_,⟨_,rfl,rfl⟩,rfl,rfl,rfl,rfl,rfl,⟨_,_,_,_,rfl,rfl,rfl,rfl⟩,by decide +kernel,λ cargs h=>by obtain ⟨a,rfl⟩:=qNz h; rfl⟩,by (repeat' first | exact rfl | decide +kernel | exact zI | exact (λ q q q=>rfl) | exact ⟨_,_,rfl⟩ | constructor)⟩
noncomputable def qIa:S:=(.seq (.asg "bare" (.meth (.var "row") "lstrip" (.cons (.str " \t") .nil))) (.seq (.asg "end" (.int 0)) (.seq (.loop 1000 (.and (.cmp .Lt (.var "end") (.call (.glob "len") (.cons (.var "bare") .nil))) (.meth (.idx (.var "bare") (.var "end")) "isalnum" .nil)) (.seq (.aug "end" (.int 1)) .nil) .nil) (.seq (.ret (.slc (.var "bare") .none (.var "end"))) .nil))))
noncomputable def qKl:Scope:={ kind:=.function,names:=[("row", .local),("bare", .local),("end", .local),("len", .globalImplicit)],isGenerator:=false,isCoroutine:=false }
theorem zLe (p:bA):jI (K p) 254 qKl ["row"] qIa :=
 ⟨_,⟨_,⟨_,rfl,rfl⟩,rfl,rfl,rfl,rfl,rfl,⟨_,_,_,_,rfl,rfl,rfl,rfl⟩,by decide +kernel,λ cargs h=>by obtain ⟨a,rfl⟩:=qNz h; rfl⟩,by (repeat' first | exact rfl | decide +kernel | exact zI | exact (λ q q q=>rfl) | exact ⟨_,_,rfl⟩ | constructor)⟩
def qIc:S:=(.seq (.own "every" (.list .nil)) (.seq (.own "groups" (.list .nil)) (.seq (.each "k" (.call (.glob "range") (.cons (.call (.glob "len") (.cons (.var "rows") .nil)) .nil)) (.seq zIx (.seq qVr .nil))) (.seq (.asgC "free" zAd) (.seq (.ite (.cmp .NotEq qOg (.list .nil)) (.seq (.ret (.idx (.cv "free") (.neg (.int 1)))) .nil) .nil) (.seq (.ite (.and (.cmp .NotEq (.var "every") (.list .nil)) (.cmp .In (.idx (.var "every") (.int 0)) (.cv "free"))) (.seq (.ret (.idx (.var "every") (.int 0))) .nil) .nil) (.seq (.ret .none) .nil)))))))
noncomputable def lnum_sc:Scope:={ kind:=.function,names:=[("rows", .local),("notes", .cell),("every", .local),("groups", .local),("k", .local),("free", .cell),("range", .globalImplicit),("len", .globalImplicit),("_law_first_word", .globalImplicit)],isGenerator:=false,isCoroutine:=false,more:=[("fast", .str "rows"),("fast", .str "notes"),("fast", .str "every"),("fast", .str "groups"),("fast", .str "k"),("fast", .str "free"),("fast", .str "group")] }
theorem zLd (p:bA):jI (K p) 259 lnum_sc ["rows", "notes"] qIc :=
 ⟨_,⟨_,⟨_,rfl,rfl⟩,rfl,rfl,rfl,rfl,rfl,⟨_,_,_,_,rfl,rfl,rfl,rfl⟩,by decide +kernel,λ cargs h=>by obtain ⟨a,b,rfl⟩:=qZe h; rfl⟩,by (repeat' first | exact rfl | decide +kernel | exact zI | exact (λ q q q=>rfl) | exact ⟨_,_,rfl⟩ | constructor)⟩
def qQb:S:=(.seq (.asgC "text" (.call (.glob "_law_text") (.cons (.var "script") .nil))) (.seq (.asg "rows" (.slc (.meth (.cv "text") "split" (.cons (.str "\n") .nil)) .none (.neg (.int 1)))) (.seq (.asg2C "notes" "opened" (.call (.glob "_law_read") (.cons (.cv "text") .nil))) (.seq zOe endB))))
noncomputable def qZf:Scope:={ kind:=.function,names:=[("script", .local),("rows", .local),("opened", .local),("due", .local),("parser", .local),("found", .local),("number", .local),("first", .cell),("begun", .local),("notes", .cell),("text", .cell),("_law_text", .globalImplicit),("_law_read", .globalImplicit),("len", .globalImplicit),("C_STRING_FIRST_LINE", .globalImplicit),("C_STRING_NEXT_LINES", .globalImplicit),("C_BACKSLASH", .globalImplicit),("C_NONE", .globalImplicit),("Parser", .globalImplicit),("_law_number", .globalImplicit),("sum", .globalImplicit),("range", .globalImplicit)],isGenerator:=false,isCoroutine:=false,more:=[("fast", .str "script"),("fast", .str "rows"),("fast", .str "opened"),("fast", .str "due"),("fast", .str "parser"),("fast", .str "found"),("fast", .str "number"),("fast", .str "row"),("fast", .str "first"),("fast", .str "k"),("fast", .str "begun"),("fast", .str "notes"),("fast", .str "text")] }
noncomputable def gl09T:List (Str×V):=[("len", .top (.builtin "len")),("sum", .top (.builtin "sum")),("range", .top (.type "range")),("Parser", .top (.ref 231)),("_law_text", .top (.ref 240)),("_law_read", .top (.ref 247)),("_law_first_word", .top (.ref 254)),("_law_number", .top (.ref 259)),("trans", .top (.ref 73)),("_synchre", .top (.ref 48)),("C_NONE", .int 0),("C_BACKSLASH", .int 1),("C_STRING_FIRST_LINE", .int 2),("C_STRING_NEXT_LINES", .int 3),("C_BRACKET", .int 4)]
noncomputable def zPw (x:Str):Option V:=gl09T.lookup x
noncomputable def tr12 (c:Nat):Nat:=if c=40\/c=123\/c=91 then 40 else if c=41\/c=125\/c=93 then 41 else if c=34\/c=39\/c=92\/c=10\/c=35 then c else 120
noncomputable def meths09:List (Str×Addr):=[("set_code", 144),("find_good_parse_start", 151),("set_lo", 158),("_study1", 165),("get_continuation_type", 172)]
noncomputable def flds09:List Str:=["code", "study_level", "indentwidth", "tabwidth", "goodlines", "continuation", "stmt_start", "stmt_end", "lastch", "lastopenbracketpos", "stmt_bracketing"]
def G09 (p:bA):Prg:={ K:=K p,C:=231,meths:=meths09,flds:=flds09,gl:=zPw,tab:=73,tabC:=65,tabF:=tr12,srch:=48 }
def rows09:Rows:=[(137,qQh,["self", "indentwidth", "tabwidth"],qIj),(144,qCz,["self", "s"],qAa),(151,qQr,["self", "is_char_in_string"],yO),(158,qKc,["self", "lo"],qHj),(165,qFq,["self"],yW),(172,qQn,["self"],qOh),(240,ltext_sc,["script"],qCe),(247,qKm,["text"],qIb),(254,qKl,["row"],qIa),(259,lnum_sc,["rows", "notes"],qIc)]
def zOy (p:bA):Array dH:=match (K p).lookup 73 with
 | some ⟨_,_,.dict es _,_⟩=>es
 | _=>#[]
noncomputable def zPu (es:Array dH):Bool:=es.toList.all λ e=>match e.key with | .int k _=>e.hash == hashInt k | _=>false
theorem zHq {es:Array dH} (h:zPu es=true):IntKeys es:=by
 intro e u
 have:=List.all_eq_true.mp h e (Array.mem_toList_iff.mpr u)
 revert this
 cases hk:e.key <;> intro this <;> first | exact ⟨_,_,rfl,eF this⟩ | exact zF1 this
noncomputable def zOr (f:Nat->Nat) (es:Array dH) (c:Nat):Bool:=match findBy mJ es (c:Int) with | some (.int i _)=>i == (f c:Nat) | _=>false
theorem zKk {f:Nat->Nat} {es:Array dH} (h:(lT 128).all (zOr f es)=true):∀ c:Nat,c < 128->∃ t,findBy mJ es (c:Int)=some (.int (f c:Nat) t):=by
 intro c hc
 have:=List.all_eq_true.mp h c (List.mem_range.mpr hc)
 unfold zOr at this
 revert this
 cases findBy mJ es (c:Int) with
 | none=>exact λ h=>zF1 h
 | some v=>cases v with
  | int i t=>exact λ h=>⟨t,by rw [eF h]⟩
  | _=>exact λ h=>zF1 h
theorem zKc:∀ c,c < 128->tr12 c < 128:=by decide +kernel
theorem zOz (p:bA):TabOk (K p) 65 73 tr12 :=
 ⟨⟨_,zOy p,_,rfl,rfl,rfl,zHq (by kernel_rfl),zKk (by kernel_rfl)⟩,by rfl,by rfl,by rfl,zKc⟩
section
variable {P:Par} {pv:gA} {loose:List Str} {mg mb:Str->Option g9} {K:Frag}
theorem glB (X:K.In P.B) (T:TopRead pv loose mg mb P.B) {x:Str} {v:g9} (e:nsIn K r8 x=some none) (hv:bootBuiltins x=some v) (hn:x≠"__name__") :
  ∃ c mg mb,P.B.Ns r8 mg/\P.B.Ns aY mb/\(mg x=some c\/(mg x=none/\mb x=some c))/\c=v :=
 ⟨v,mg,mb,T.g,T.b,.inr ⟨mg_none_of X T.g e,(T.builtins x hn).trans hv⟩,rfl⟩
theorem glK (X:K.In P.B) (T:TopRead pv loose mg mb P.B) {x:Str} {v:g9} (e:nsIn K r8 x=some (some v)) :
  ∃ c mg mb,P.B.Ns r8 mg/\P.B.Ns aY mb/\(mg x=some c\/(mg x=none/\mb x=some c))/\c=v :=
 ⟨v,mg,mb,T.g,T.b,.inl (mg_of X T.g e),rfl⟩
def zCj (P:Par) (x:Str) (v:V):Prop:=∃ c mg mb,P.B.Ns r8 mg/\P.B.Ns aY mb/\(mg x=some c\/(mg x=none/\mb x=some c))/\∀ W n,VR W n v c
theorem qZq {x:Str} {v:g9} (h:∃ c mg mb,P.B.Ns r8 mg/\P.B.Ns aY mb/\(mg x=some c\/(mg x=none/\mb x=some c))/\c=v):zCj P x (.top v):=by
 obtain ⟨c,mg,mb,a,b,d,rfl⟩:=h
 exact ⟨c,mg,mb,a,b,d,λ q q=>.top _⟩
theorem zNs {x:Str} {i:Int} {t:Tok} (h:∃ c mg mb,P.B.Ns r8 mg/\P.B.Ns aY mb/\(mg x=some c\/(mg x=none/\mb x=some c))/\c=.int i t):zCj P x (.int i):=by
 obtain ⟨c,mg,mb,a,b,d,rfl⟩:=h
 exact ⟨_,mg,mb,a,b,d,λ q q=>.int _ _⟩
end
section
variable {P:Par} {pv:gA} {loose:List Str} {mg mb:Str->Option g9}
theorem fc {α:Type} {p:α->Prop} {a:α} {l:List α} (h:p a) (t:∀ q∈l,p q):∀ q∈a::l,p q:=List.forall_mem_cons.mpr ⟨h,t⟩
theorem fn {α:Type} {p:α->Prop}:∀ q∈([]:List α),p q:=λ z h=>nomatch h
theorem qZs (p:bA) (X:(K p).In P.B) (T:TopRead pv loose mg mb P.B):∀ q∈gl09T,zCj P q.1 q.2:=by
 unfold gl09T
 repeat (refine fc (p:=λ q:Str×V=>zCj P q.1 q.2) (by first | exact qZq (glB X T (by rfl) (by rfl) (by decide)) | exact qZq (glK X T (by rfl)) | exact zNs (glK X T (by rfl))) ?_)
 exact fn
theorem zHx (p:bA) (X:(K p).In P.B) (T:TopRead pv loose mg mb P.B) (x:Str) (v:V) (h:zPw x=some v):zCj P x v:=qZs p X T (x,v) (qS h)
theorem qNw (p:bA):∀ q∈meths09,findIn (K p) (.ref 231) q.1=some (some (.ref q.2))/\typeIn (K p) (.ref q.2)=some (.type "function"):=by
 unfold meths09
 repeat (refine fc (p:=λ q:Str×Addr=>findIn (K p) (.ref 231) q.1=some (some (.ref q.2))/\typeIn (K p) (.ref q.2)=some (.type "function")) ⟨by rfl,by rfl⟩ ?_)
 exact fn
theorem qUd (p:bA):∀ f∈flds09,findIn (K p) (.ref 231) f=some none:=by
 unfold flds09
 repeat (refine fc (p:=λ f=>findIn (K p) (.ref 231) f=some none) (by rfl) ?_)
 exact fn
theorem zKt (p:bA) (X:(K p).In P.B):∃ u,P.B.get? 48=some (Mine.Lake.Re.boundObj "re.Pattern.search" u)/\Mine.Lake.Re.PatAt P.B u Mine.Lake.Re.code1 :=
 ⟨43,X _ _ (by rfl),⟨_,_,_,X _ _ (by rfl),by rfl,by rfl,by rfl,by rfl,by rfl,_,_,_,X _ _ (by rfl),by rfl,by first | rfl | kernel_rfl⟩⟩
theorem zPf (p:bA) (X:(K p).In P.B) (T:TopRead pv loose mg mb P.B) (u:qLw P):PrgOk P (G09 p) :=
 ⟨⟨X,by rfl,by rfl,by rfl,by rfl,by rfl,by rfl⟩,zOz p,u,zKt p X,λ m g h=>qNw p (m,g) (qS h),λ f h=>qUd p f (by
  have h':flds09.contains f=true:=h
  simpa using h'),zHx p X T⟩
set_option tactic.hygienic true in
theorem qAy {β:Type} {a:Addr} {b:β}:∀ {l:List (Addr×β)},l.lookup a=some b->(a,b)∈l
 | [],h=>nomatch h
 | (c,d)::l,h=>by
  rw [List.lookup_cons] at h
  split at h
  ·rename_i q; cases h; rw [beq_iff_eq.mp q]; exact .head _
  ·exact .tail _ (qAy h)
theorem qNl (p:bA):∀ q∈rows09,jI (K p) q.1 q.2.1 q.2.2.1 q.2.2.2:=by
 unfold rows09
 repeat (refine fc (p:=λ q:Addr×Scope×List Str×S=>jI (K p) q.1 q.2.1 q.2.2.1 q.2.2.2) (by first | exact zLm p | exact zLl p | exact zLk p | exact zLj p | exact zLi p | exact zLh p | exact zLg p | exact zLf p | exact zLe p | exact zLd p) ?_)
 exact fn
theorem qSy (p:bA):qPh (G09 p).K rows09:=λ a sc ps b h=>qNl p (a,sc,ps,b) (qAy h)
theorem zCu (hp:P.ex=none) (p:bA) (X:(K p).In P.B) (T:TopRead pv loose mg mb P.B) (u:qLw P) (n:Nat):SxOk P (tower (G09 p) rows09 137 n) :=
 yV hp (zPf p X T u) T.nolimit (qSy p) (by rfl) (by rfl) n
end
noncomputable def lq:Str:="law.<locals>.<lambda>"
def start09 (ns:List Int):St:=qQc qZf lq [("script", .list (ns.map .int))]
def qRg:Prop:=∀ p,∀ ns:List Int,ns.length<=63->∃ Z',ex qQb (tower (G09 p) rows09 137 6) (start09 ns)=.ok (.ret (.bool true)) Z'/\Z'.obj 0=some (.tab lq)
theorem qKy {W:Wd} {n:Nat}:∀ {vs:Lv} {ns:List Int},IntsAre vs ns->VRs W n (ns.map .int) vs
 | _,_,.nil=>.nil
 | _,_,.cons _ _ r=>.cons (.int _ _) (qKy r)
theorem qAz:∀ {vs:Lv} {ns:List Int},IntsAre vs ns->vs.length=ns.length
 | _,_,.nil=>rfl
 | _,_,.cons _ _ r=>g8 oB (qAz r)
theorem qTd (l:List PyData):∃ xs,ofPy (gZ l)=.list xs:=by
 first | exact ⟨_,rfl⟩ | (unfold ofPy; exact ⟨_,rfl⟩)
local macro_rules | `(tactic| k_qdec)=>`(tactic| decide +kernel)
set_option tactic.hygienic true in
theorem joined (plain:qRg):PySem.Challenge.rw_dm0167_02.Holds:=hd (by
 intro w aO a8 mg mb G Y fa o pm cd doc dV kV ho hd hcd hD hmg hg args vals as hpre hlay hrd hwl hlo
 have KX:=kIn_of Y
 have V:=(Ground.X G).2
 refine Ground.open G ?_
 intro T B D TE TW
 try (refine guard_noD D (by decide +kernel) ?_; clear D)
 have hT9:TabsAt ([(263,261)]:List (Addr×Addr)) _:=List.forall_mem_cons.mpr ⟨tab_of (x:=fB "law") (c:=263) (P:=261) T KX rfl (by kernel_rfl),λ y h=>nomatch h⟩
 have he9:cd=pS 263:=law_code (x:=fB "law") (c:=263) (P:=261) KX (Top.g T) (by kernel_rfl) hmg ho hd
 subst he9
 clear hmg
 wrow_args hpre hlay hrd hwl hlo
 all_goals (
  refine zOa ?_
  w_top on
  refine zPg hT9 (λ y y=>rfl) ?_
  w_call any ho hd hcd hD T F
  clear hd
  kn_ghosts F T
  k_drop
  skip)
 rename_i ns hs hlay0 hL0 hr0 hl2 u5 u4 a vs u1 hL ra hW1 r0 hI hr hcond1 hcond2 aD d4 w2 w1 w0 hc2 hc1 hc0 X0 X' T' K' F' N' l0
 refine bC λ n0=>?_
 obtain ⟨lo,hlo,hlc,ln,hld⟩:=lifted
 have hlen:ns.length<=63:=by omega
 obtain ⟨Z',hex,htab⟩:=plain w.params ns hlen
 refine n0 ?_
 have hvl:=qAz hI
 have hdict:lo.dict=none:=by
  refine bC λ n0=>?_
  obtain ⟨xs,e⟩:=qTd (ns.map gS)
  obtain ⟨lo2,hlo2,hc2,_⟩:=hL
  refine n0 ?_
  have e2:=ghost_ne (tabs:=[(263,261)]) hlo2 (λ z=>by
   have z':=List.mem_singleton.mp z
   rw [z'] at hlo2
   have e9:a8.heap.get? 261=some (tabObj #[]):=(hT9 _ (.head _)).2
   rw [e9] at hlo2; cases hlo2; cases hc2)
  rw [e] at hW1
  cases hW1 with
  | list e3 _=>rw [e3] at hlo2; cases hlo2; rw [e2] at hlo; cases hlo; rfl
 have hlam:qLw ⟨PySem.Challenge.rw_dm0167_02.row.prog,w,ghostOf a8.heap [(263,261)],a8.os,none,261⟩:=by
  refine bC λ n0=>?_
  obtain ⟨bm,ob,b1,b2,b3,b4,b5,b6⟩:=T'.bmain
  refine n0 ?_
  exact ⟨mg,bm,ob,T'.g,b1,b2,b3,b4,b5,b6⟩
 have SX:=λ n=>zCu (P:=⟨PySem.Challenge.rw_dm0167_02.row.prog,w,ghostOf a8.heap [(263,261)],a8.os,none,261⟩) rfl w.params X' (topRead_of T') hlam n
 refine zHo (P:=⟨PySem.Challenge.rw_dm0167_02.row.prog,w,ghostOf a8.heap [(263,261)],a8.os,none,261⟩) (sc:=qZf) (ps:=["script"]) (args:=[.list (ns.map .int)]) (cargs:=[.ref a]) (T:=261) (L:=a8.heap.objs.size) (cd:=263) (q:=lq) (fz:=λ b=>if b=a then some lo else none) (cx:=tower (G09 w.params) rows09 137 6) (b:=qQb) (v:=.bool true) (Z':=Z')
  (by decide +kernel) rfl rfl rfl rfl rfl rfl (hideAll_size _ _) l0 F'.ns F'.keep (λ x c hm=>?_) (λ b ob hb=>?_) (.cons (.list (c7 rfl) hlc hld ?_ (qKy hI) hdict) .nil) hg rfl
  (hideAll_none _ (.head _)) (N' _ (.tail _ (.tail _ (.tail _ (.head _))))).1 rfl codeHd rfl rfl rfl (SX 6) (by rw [wJ]; decide) (by (repeat' first | exact rfl | decide +kernel | exact zI | exact (λ y y y=>rfl) | exact ⟨_,_,rfl⟩ | constructor)) hex htab (λ W c s' ps' hv hk ht ho hg=>?_)
 ·have hm':(x,c)∈[(("text" : Str),a8.heap.objs.size+1+1+1),(("notes" : Str),a8.heap.objs.size+1+1),(("first" : Str),a8.heap.objs.size+1)]:=hm
  cases hm' with
  | head=>exact ⟨w2,(N' _ (.head _)).1,hc2⟩
  | tail _ hm'=>cases hm' with
   | head=>exact ⟨w1,(N' _ (.tail _ (.head _))).1,hc1⟩
   | tail _ hm'=>cases hm' with
    | head=>exact ⟨w0,(N' _ (.tail _ (.tail _ (.head _)))).1,hc0⟩
    | tail _ h=>cases h
 ·have hb':(if b=a then some lo else none)=some ob:=hb
  split at hb'
  ·rename_i e; subst e; cases hb'; exact hlo
  ·exact zN1 hb'
 ·rw [n7,sizeLine_eq]; omega
 ·cases hv
  refine ⟨⟨.inl ⟨_,_,_,rfl,λ cls=>?_,.bool true,?_,λ y=>⟨oR,λ a ha=>by cases ha⟩⟩,hk,ho,hg⟩,⟨ps',ht⟩,trivial⟩
  ·rfl
  ·first | rfl | kernel_rfl | w_fin)
end Mine.Lake.L09
namespace Mine.Lake.Rp
open PySem StrLaws PySem.Builtin PySem.Builtin.Str
noncomputable def rp (y z:Ln):Nat->Ln->Ln
 | _,[]=>[]
 | k+1,_::l=>rp y z k l
 | 0,c::l=>if (c::l).take y.length=y then z++rp y z (y.length - 1) l else c::rp y z 0 l
noncomputable def oc (y:Ln):Nat->Nat->Ln->Ln
 | _,_,[]=>[]
 | i,k+1,_::l=>oc y (i+1) k l
 | i,0,c::l=>if (c::l).take y.length=y then i::oc y (i+1) (y.length - 1) l else oc y (i+1) 0 l
theorem wG {α:Type} {xs:List α} {i:Nat} (h:xs.drop i=[]):xs.length<=i:=List.drop_eq_nil_iff.mp h
theorem jQ {α:Type} {xs l:List α} {i:Nat} {c:α} (h:xs.drop i=c::l):i < xs.length:=Nat.lt_of_not_le λ q=>by
 rw [eL q] at h; cases h
theorem qFp {α:Type} {xs y:List α} {i:Nat} (hi:i<=xs.length) (h:(xs.drop i).take y.length=y):i+y.length<=xs.length:=by
 have:=g8 List.length h
 rw [dS,u0] at this
 have h2:y.length<=xs.length - i:=by rw [← this]; exact iB _ _
 exact Nat.add_le_of_le_sub' hi h2
section
variable {x:Str} {y z:Ln}
theorem qHv (hy:y≠[]) (n:Nat) (hn:n=x.length):∀ (l:Ln) (i k free:Nat) (found:Array Nat),free - i=k->x.cps.toList.drop i=l->found.size<=i->i<=n ->
  (forIn (m4 i (n+1 - i)) (found,free) (occBody x ⟨y.toArray⟩ n (n+1))).run.fst.toList=found.toList++oc y i k l
 | [],i,k,free,found,hk,h,hs,hi=>by
  have u:x.cps.toList.length=n:=by rw [hn]; exact h9
  have O:n<=i:=u ▸ wG h
  have:i=n:=fD hi O
  subst this
  have hr:m4 i (i+1 - i)=[i]:=by
   rw [v3]; rfl
  rw [hr]
  rw [lQ]
  unfold occBody
  have S:0 < (⟨y.toArray⟩:Str).length:=by
   show 0 < y.toArray.size
   rw [n7]
   exact List.length_pos_iff.mpr hy
  rw [d0 (λ q=>f8 q.1.2 (Nat.not_le.mpr (dA S)))]
  rw [show oc y i k []=[] from rfl]
  simp
 | c::l,i,k,free,found,hk,h,hs,hi=>by
  have u:x.cps.toList.length=n:=by rw [hn]; exact h9
  have B:i < n:=u ▸ jQ h
  have L:x.cps.toList.drop (i+1)=l:=by
   rw [← gU,h]; rfl
  have hr:m4 i (n+1 - i)=i::m4 (i+1) (n+1 - (i+1)):=by
   rw [fJ,pP (n1 B)]; rfl
  have J:(⟨y.toArray⟩:Str).length=y.length:=by
   show y.toArray.size=_
   rw [n7]
  have D:(i+(⟨y.toArray⟩:Str).length<=n/\subAt x ⟨y.toArray⟩ i=true) ↔ (c::l).take y.length=y:=by
   rw [subAt_eq,h,J]
   constructor
   ·intro q; simpa using q.2
   ·intro q
    refine ⟨?_,by simpa using q⟩
    rw [← h] at q
    exact u ▸ qFp (u.symm ▸ hi) q
  rw [hr,lQ]
  unfold occBody
  cases k with
  | succ k =>
   rw [d0 (λ q=>by
    have e:free - i=0:=dL q.1.1.2
    rw [e] at hk; cases hk)]
   exact qHv hy n hn l (i+1) k free found (by rw [Nat.sub_succ,hk]; rfl) L (j6 hs) B
  | zero =>
   by_cases hc:(c::l).take y.length=y
   ·obtain ⟨T,V⟩:=D.mpr hc
    rw [c7 ⟨⟨⟨m2 (d5 hs hi),Nat.sub_eq_zero_iff_le.mp hk⟩,T⟩,V⟩]
    have U:=qHv hy n hn l (i+1) (y.length - 1) (i+(⟨y.toArray⟩:Str).length) (found.push i) (by rw [J,Nat.add_sub_add_left]) L (by rw [size_push]; exact u9 hs) B
    have e:oc y i 0 (c::l)=i::oc y (i+1) (y.length - 1) l:=c7 hc
    rw [e]
    refine Eq.trans U ?_
    rw [mE,u6]; rfl
   ·rw [d0 (λ q=>hc (D.mp ⟨q.1.2,q.2⟩))]
    have e:oc y i 0 (c::l)=oc y (i+1) 0 l:=d0 hc
    rw [e]
    exact qHv hy n hn l (i+1) 0 free found (by rw [Nat.sub_succ,hk]; rfl) L (j6 hs) B
theorem qHw (hy:y≠[]):occurrences x ⟨y.toArray⟩ 0 x.length (x.length+1)=oc y 0 0 x.cps.toList:=by
 rw [occ_eq]
 exact qHv hy x.length rfl x.cps.toList 0 0 0 #[] rfl rfl (m9 _) (m9 _)
theorem qTq (z p:Str) {r:List Str} (h:r≠[]):oS z (p::r)=p++z++oS z r:=by
 cases r with
 | nil=>exact f8 rfl h
 | cons a r=>rfl
theorem qXy {x:Str} {w a:Nat} {u:Ln}:partsFrom x w a u≠[]:=by
 cases u <;> exact eA _ _
theorem sub_list (x:Str) (a b:Nat):(strSub x a b).cps.toList=(x.cps.toList.drop a).take (b - a):=strSub_toList x a b
theorem uD (hy:y≠[]):∀ (l:Ln) (i k a:Nat),x.cps.toList.drop i=l->i<=x.length->(k=0->a<=i)->(0 < k->a=i+k)->a<=x.length ->
  (oS ⟨z.toArray⟩ (partsFrom x y.length a (oc y i k l))).cps.toList=(x.cps.toList.drop a).take (i - a)++rp y z k l
 | [],i,k,a,h,hi,h0,h1,ha=>by
  have u:x.cps.toList.length=x.length:=h9
  have L:x.length<=i:=u ▸ wG h
  have e1:oc y i k []=[]:=by cases k <;> rfl
  have e2:rp y z k []=[]:=by cases k <;> rfl
  rw [e1,e2,cN]
  show (strSub x a x.length).cps.toList=_
  rw [sub_list]
  by_cases hk:k=0
  ·have:=h0 hk
   rw [fD hi L]
  ·have:=h1 (bR hk)
   exact f8 (d5 ha L) (this ▸ Nat.not_le.mpr (dA (bR hk)))
 | c::l,i,k,a,h,hi,h0,h1,ha=>by
  have u:x.cps.toList.length=x.length:=h9
  have J:i < x.length:=u ▸ jQ h
  have O:x.cps.toList.drop (i+1)=l:=by
   rw [← gU,h]; rfl
  cases k with
  | succ k =>
   have B:=h1 (lJ _)
   show (oS _ (partsFrom x y.length a (oc y (i+1) k l))).cps.toList=_++rp y z k l
   rw [uD hy l (i+1) k a O J (λ q=>by rw [B,q]; exact d7 _) (λ w=>B.trans (l9 i k 1)) ha]
   rw [dL (B ▸ i7 (lJ k) i),dL (B ▸ n4 i _)]
  | zero =>
   have D:=h0 rfl
   by_cases hc:(c::l).take y.length=y
   ·have e1:oc y i 0 (c::l)=i::oc y (i+1) (y.length - 1) l:=c7 hc
    have e2:rp y z 0 (c::l)=z++rp y z (y.length - 1) l:=c7 hc
    have hp:0 < y.length:=List.length_pos_iff.mpr hy
    have S:i+y.length<=x.length:=u ▸ qFp (u.symm ▸ hi) (h.symm ▸ hc)
    rw [e1,e2]
    show (oS _ (strSub x a i::partsFrom x y.length (i+y.length) _)).cps.toList=_
    rw [qTq _ _ qXy]
    show (((strSub x a i).cps++z.toArray)++(oS _ _).cps).toList=_
    rw [gN,gN,sub_list,uD hy l (i+1) (y.length - 1) (i+y.length) O J (λ q=>i7 (Nat.le_of_sub_eq_zero q) i) (λ w=>by rw [t6,dX hp]) S]
    rw [dL (i7 hp i),oT,nE,u6]
   ·have e1:oc y i 0 (c::l)=oc y (i+1) 0 l:=d0 hc
    have e2:rp y z 0 (c::l)=c::rp y z 0 l:=d0 hc
    rw [e1,e2,uD hy l (i+1) 0 a O J (λ w=>j6 D) (λ q=>f8 q (gV 0)) ha]
    have e3:(x.cps.toList.drop a).take (i+1 - a)=(x.cps.toList.drop a).take (i - a)++[c]:=by
     rw [pP D,List.take_add_one]
     congr 1
     rw [eB,dX D]
     have:(x.cps.toList.drop i)[0]? = some c:=by rw [h]; rfl
     rw [eB,iA] at this
     rw [this]; rfl
    rw [e3,u6]; rfl
theorem qPq (hy:y≠[]):∀ (l:Ln) (i k:Nat),oc y i k l=[]->k=0->rp y z k l=l
 | [],i,k,h,hk=>by subst hk; rfl
 | c::l,i,k,h,hk=>by
  subst hk
  by_cases hc:(c::l).take y.length=y
  ·have e1:oc y i 0 (c::l)=i::oc y (i+1) (y.length - 1) l:=c7 hc
   rw [e1] at h; cases h
  ·have e1:oc y i 0 (c::l)=oc y (i+1) 0 l:=d0 hc
   have e2:rp y z 0 (c::l)=c::rp y z 0 l:=d0 hc
   rw [e1] at h
   rw [e2,qPq hy l (i+1) 0 h rfl]
set_option tactic.hygienic true in
theorem qNm (hy:y≠[]):(u2 x ⟨y.toArray⟩ ⟨z.toArray⟩).cps.toList=rp y z 0 x.cps.toList:=by
 have u:(⟨y.toArray⟩:Str).length=y.length:=by
  show y.toArray.size=_
  rw [n7]
 have hp:0 < y.length:=List.length_pos_iff.mpr hy
 unfold u2
 rw [qHw hy]
 split
 ·rename_i hc
  rw [lS,d8] at hc
  rcases hc with hc | hc
  ·exact (qPq hy _ 0 0 (List.isEmpty_iff.mp hc) rfl).symm
  ·have:=beq_iff_eq.mp hc.1
   rw [u] at this; lia
 ·rw [glued_eq_join,nT,u,uD hy x.cps.toList 0 0 0 rfl (m9 _) (λ q=>d7 _) (λ h=>f8 h (gV _)) (m9 _)]
  simp
end
end Mine.Lake.Rp
namespace Mine.Lake.Rp
open PySem
section
variable {y z:Ln}
def four (l:Ln):Ln:=rp [120,120] [120] 0 (rp [120,120] [120] 0 (rp [120,120,120,120] [120] 0 (rp [120,120,120,120,120,120,120,120] [120] 0 l)))
def lastp (l:Ln):Ln:=rp [10,120] [10] 0 l
def isLine (p:Ln):Prop:=∃ q,p=q++[10]
theorem uE {y z:Ln} (hy:10 ∉ y) (B:y≠[]):∀ {q:Ln} {k:Nat},k<=q.length->isLine (rp y z k (q++[10]))
 | [],k,hk=>by
  obtain rfl:k=0:=Nat.le_zero.mp hk
  refine ⟨[],?_⟩
  show (if ([10]:Ln).take y.length=y then _ else _)=_
  rw [d0]
  ·rfl
  ·intro q
   cases y with
   | nil=>exact B rfl
   | cons a r =>
    rw [m7,dE] at q
    exact hy (by rw [← (j5 q).1]; exact .head _)
 | c::q,0,_=>by
  by_cases hc:(c::q++[10]).take y.length=y
  ·have D:y.length<=(c::q).length:=by
    refine Nat.not_lt.mp λ h'=>hy ?_
    rw [← hc,List.take_append,nU]
    refine .inr ?_
    obtain ⟨n,hn⟩:∃ n,y.length - (c::q).length=n+1:=Nat.exists_eq_succ_of_ne_zero (iH h')
    rw [hn,dE]; exact .head _
   rw [m7] at D
   have e2:rp y z 0 (c::q++[10])=z++rp y z (y.length - 1) (q++[10]):=c7 hc
   obtain ⟨u,hu⟩:=uE (z:=z) hy B (q:=q) (k:=y.length - 1) (by simp [D])
   exact ⟨z++u,by rw [e2,hu,u6]⟩
  ·have e2:rp y z 0 (c::q++[10])=c::rp y z 0 (q++[10]):=d0 hc
   obtain ⟨u,hu⟩:=uE (z:=z) hy B (q:=q) (k:=0) (m9 _)
   exact ⟨c::u,by rw [e2,hu]; rfl⟩
 | c::q,k+1,hk=>uE (q:=q) hy B (v5 hk)
end
end Mine.Lake.Rp
namespace Mine.Lake
open PySem PySem.W PyProof.Rows
theorem zIf {cx:Cx} {x:_} {Z:St}:ev cx (.var x) Z=(match Z.loc.lookup x with | some v=>.ok v Z | Option.none=>.bad):=rfl
theorem zNz {cx:Cx} {x:_} {Z:St}:ev cx (.cv x) Z=(match Z.cel.lookup x with
  | some k=>(match Z.obj k with | some (.cell (some v))=>.ok v Z | _=>.bad)
  | Option.none=>.bad):=rfl
theorem zAk {cx:Cx} {x:_} {Z:St}:ev cx (.glob x) Z=(match cx.gl x with | some v=>.ok v Z | Option.none=>.bad):=rfl
theorem zIm {cx:Cx} {op:_} {a:_} {b:_} {Z:St}:ev cx (.bin op a b) Z=((ev cx a Z).bind λ u a0=>(ev cx b a0).bind λ B a7=>(qJc a7.toHp op u B).st a7):=rfl
theorem zIi {cx:Cx} {a:_} {Z:St}:ev cx (.not a) Z=((ev cx a Z).bind λ u a0=>match xP a0.toHp u with | some b=>.ok (.bool !b) a0 | Option.none=>.bad):=rfl
theorem qQs {cx:Cx} {op:_} {a:_} {b:_} {Z:St}:ev cx (.cmp op a b) Z=((ev cx a Z).bind λ u a0=>(ev cx b a0).bind λ B a7=>(vG a7.toHp op u B).st a7):=rfl
theorem zIn {cx:Cx} {a:_} {b:_} {Z:St}:ev cx (.and a b) Z=((ev cx a Z).bind λ u a0=>condR u a0 (ev cx b) (λ a0=>.ok u a0)):=rfl
theorem qOk {cx:Cx} {a:_} {b:_} {Z:St}:ev cx (.or a b) Z=((ev cx a Z).bind λ u a0=>condR u a0 (λ a0=>.ok u a0) (ev cx b)):=rfl
theorem zIk {cx:Cx} {c:_} {a:_} {b:_} {Z:St}:ev cx (.ite c a b) Z=((ev cx c Z).bind λ u a0=>condR u a0 (ev cx a) (ev cx b)):=rfl
theorem zIl {cx:Cx} {a:_} {i:_} {Z:St}:ev cx (.idx a i) Z=((ev cx a Z).bind λ u a0=>(ev cx i a0).bind λ B a7=>(wF a7.toHp u B).st a7):=rfl
theorem zIh {cx:Cx} {a:_} {u:_} {hi:_} {Z:St}:ev cx (.slc a u hi) Z=((ev cx a Z).bind λ D a0=>(ev cx u a0).bind λ J a7=>(ev cx hi a7).bind λ B aG=>(wX aG.toHp D J B).st aG):=rfl
theorem zAm {cx:Cx} {o:_} {f:_} {Z:St}:ev cx (.attr o f) Z=((ev cx o Z).bind λ vo a0=>(cx.fld vo f a0.toHp).st a0):=rfl
theorem zAj {cx:Cx} {es:_} {Z:St}:ev cx (.list es) Z=((ev cx es Z).bind λ vs a0=>jH vs a0 λ xs a0=>fits xs.length (.ok (.list xs) a0)):=rfl
theorem zIg {cx:Cx} {es:_} {Z:St}:ev cx (.tup es) Z=((ev cx es Z).bind λ vs a0=>jH vs a0 λ xs a0=>fits xs.length (.ok (.tup xs) a0)):=rfl
theorem qLe {cx:Cx} {a:_} {b:_} {Z:St}:ev cx (.cons a b) Z=((ev cx a Z).bind λ u a0=>(ev cx b a0).bind λ vs a7=>jH vs a7 λ xs a7=>.ok (.list (u::xs)) a7):=rfl
theorem qLf {cx:Cx} {f:_} {as:_} {Z:St}:ev cx (.call f as) Z=((ev cx f Z).bind λ vf a0=>(ev cx as a0).bind λ vs a7=>jH vs a7 λ xs a7=>(cx.app vf xs a7.toHp).lift a7):=rfl
theorem qLd {cx:Cx} {o:_} {m:_} {as:_} {Z:St}:ev cx (.meth o m as) Z=((ev cx o Z).bind λ vo a0=>match cx.get vo m a0.toHp with
  | some (vf,first)=>(ev cx as a0).bind λ vs a7=>jH vs a7 λ xs a7=>(cx.app vf (first++xs) a7.toHp).lift a7
  | Option.none=>.bad):=rfl
theorem zAl {cx:Cx} {elt:_} {x:_} {it:_} {cond:_} {Z:St}:ev cx (.comp elt x it cond) Z=(if cx.calm=true then .bad else (ev cx it Z).bind λ u a0=>match zV a0.toHp u with
  | some xs=>(turns u xs (λ v a7=>(ev cx cond { a7 with loc:=[(x,v)],cel:=a0.cel,tbl:=Option.none }).bind λ b aG=>qBc b aG (ev cx elt)) xs a0).bind λ vs a7=>fits vs.length (.ok (.list vs) { a0 with toHp:=a7.toHp })
  | Option.none=>.bad):=rfl
theorem zIj {cx:Cx} {ps:_} {b:_} {Z:St}:ev cx (.lam ps b) Z=(qOa Z (.clo ps b Z.cel)):=rfl
theorem zAi {cx:Cx} {es:_} {Z:St}:ev cx (.newl es) Z=((ev cx es Z).bind λ vs a0=>jH vs a0 λ xs a0=>fits xs.length (.ok (.ref a0.nxt) (a0.add (.list xs)))):=rfl
theorem zAh {cx:Sx} {x:_} {it:_} {b:_} {Z:St}:ex (.each x it b) cx Z=(if cx.calm=true then .bad else (ev cx.toCx it Z).bind λ v a0=>match zV a0.toHp v with
  | some xs=>vD v xs (λ u Z=>ex b cx (Z.set x u)) xs a0
  | none=>.bad):=rfl
set_option tactic.hygienic true in
theorem zIe {cx:Sx} {x:_} {e:_} {Z:St}:ex (.aug x e) cx Z=((ev cx.toCx (.var x) Z).bind λ u B=>(ev cx.toCx e B).bind λ v a0=>((qFl u v).st a0).bind λ r a7=>.ok .next (a7.set x r)):=rfl
theorem qUe {cx:Sx} {x:_} {y:_} {e:_} {Z:St}:ex (.asg2C x y e) cx Z=((ev cx.toCx e Z).bind λ v a0=>jS v λ a b=>kD ((a0.setC x a).map λ a7=>a7.set y b)):=rfl
theorem zNy {cx:Sx} {x:_} {u:_} {ps:_} {b:_} {Z:St}:ex (.sq x u ps b) cx Z=(match Z.loc.lookup x with
  | some (.str v)=>(cx.gl u).elim .bad λ vt=>(cx.tr vt).elim .bad λ f=>(qMt f ps v).elim .bad λ v'=>ex b cx (Z.set x (.str v'))
  | _=>.bad):=rfl
inductive Gd {α:Type} (r:Rs α) (Q:α->St->Prop):Prop where
 | mk (a:α) (Z:St) (h1:r=.ok a Z) (h2:Q a Z)
section
variable {cx:Sx} {Z a0 a7:St} {Q:Fl->St->Prop}
theorem Gd.mono {α:Type} {r:Rs α} {Q Q':α->St->Prop} (h:Gd r Q) (u:∀ a Z,Q a Z->Q' a Z):Gd r Q':=let ⟨a,Z,e,q⟩:=h; ⟨a,Z,e,u a Z q⟩
theorem qD {a b:S} (h:Gd (ex a cx Z) λ f a0=>match f with | .next=>Gd (ex b cx a0) Q | f=>Q f a0):Gd (ex (.seq a b) cx Z) Q:=by
 obtain ⟨f,a0,e,h⟩:=h
 have u:ex (.seq a b) cx Z=zNr f a0 (ex b cx):=(Rs.bind_ok e:_)
 rw [u]
 cases f with
 | next=>exact h
 | _=>exact ⟨_,a0,rfl,h⟩
set_option tactic.hygienic true in
theorem gd_nil (h:Q .next Z):Gd (ex .nil cx Z) Q:=⟨_,_,rfl,h⟩
set_option tactic.hygienic true in
theorem vA {x:Str} {e:X} {v:V} (u:ev cx.toCx e Z=.ok v a0) (h:Q .next (a0.set x v)):Gd (ex (.asg x e) cx Z) Q:=⟨_,_,(Rs.bind_ok u:_),h⟩
set_option tactic.hygienic true in
theorem zHz {e:X} {v:V} (u:ev cx.toCx e Z=.ok v a0) (h:Q .next a0):Gd (ex (.expr e) cx Z) Q:=⟨_,_,(Rs.bind_ok u:_),h⟩
theorem kL {e:X} {v:V} (u:ev cx.toCx e Z=.ok v a0) (h:Q (.ret v) a0):Gd (ex (.ret e) cx Z) Q:=⟨_,_,(Rs.bind_ok u:_),h⟩
set_option tactic.hygienic true in
theorem qOi {x:Str} {e:X} {xs:List V} (u:ev cx.toCx e Z=.ok (.list xs) a0) (h:Q .next ((a0.add (.list xs)).set x (.ref a0.nxt))):Gd (ex (.own x e) cx Z) Q:=⟨_,_,(Rs.bind_ok u:_),h⟩
theorem qT {c:X} {a b:S} {v:V} {t:Bool} (D:ev cx.toCx c Z=.ok v a0) (J:xP a0.toHp v=some t) (B:t=true->Gd (ex a cx a0) Q) (h2:t=false->Gd (ex b cx a0) Q):Gd (ex (.ite c a b) cx Z) Q:=by
 have u:ex (.ite c a b) cx Z=condS v a0 (ex a cx) (ex b cx):=(Rs.bind_ok D:_)
 rw [u]
 unfold condS
 rw [J]
 cases t with
 | true=>exact B rfl
 | false=>exact h2 rfl
set_option tactic.hygienic true in
theorem qIn {x y:Str} {e:X} {a b:V} (u:ev cx.toCx e Z=.ok (.tup [a,b]) a0) (h:Q .next ((a0.set x a).set y b)):Gd (ex (.asg2 x y e) cx Z) Q:=⟨_,_,(Rs.bind_ok u:_),h⟩
set_option tactic.hygienic true in
abbrev LQ (I:St->Prop) (Q:Fl->St->Prop) (f:Fl) (Z':St):Prop:=match f with
 | .next=>I Z'
 | .cont=>I Z'
 | .brk=>Q .next Z'
 | .ret u=>Q (.ret u) Z'
theorem uR {n:Nat} {c:X} {b o:S} (I:Nat->St->Prop) (U:I n Z)
  (O:∀ k Z,I k Z->∃ B,k=B+1/\∃ v a0 t,ev cx.toCx c Z=.ok v a0/\xP a0.toHp v=some t/\(t=true->Gd (ex b cx a0) (LQ (I B) Q))/\(t=false->Gd (ex o cx a0) Q)):Gd (ex (.loop n c b o) cx Z) Q:=by
 have D:∀ k Z,I k Z->Gd (vL (tr (ev cx.toCx c)) (ex b cx) (ex o cx) k Z) Q:=by
  intro k
  induction k with
  | zero=>intro Z J; obtain ⟨B,e,_⟩:=O 0 Z J; cases e
  | succ k L =>
   intro Z J
   obtain ⟨B,e,v,a0,t,e1,e2,V,h2⟩:=O _ Z J
   cases e
   have T:tr (ev cx.toCx c) Z=.ok t a0:=by unfold tr; rw [Rs.bind_ok e1]; unfold kN; rw [e2]
   show Gd ((tr (ev cx.toCx c) Z).bind λ t Z=>if t=true then (ex b cx Z).bind (qAs (vL (tr (ev cx.toCx c)) (ex b cx) (ex o cx) k)) else ex o cx Z) Q
   rw [T]
   cases t with
   | true =>
    obtain ⟨f,Z',e3,h3⟩:=V rfl
    show Gd ((ex b cx a0).bind _) Q
    rw [e3]
    cases f with
    | next=>exact L Z' h3
    | cont=>exact L Z' h3
    | brk=>exact ⟨_,_,rfl,h3⟩
    | ret u=>exact ⟨_,_,rfl,h3⟩
   | false=>exact h2 rfl
 exact D n Z U
set_option tactic.hygienic true in
theorem qZy {v:V} {xs:List V} {b:V->St->Rs Fl} (I:List V->St->Prop) (S:I xs a0)
  (D:∀ l Z,I l Z->zV Z.toHp v=some xs) (T:∀ y r Z,I (y::r) Z->Gd (b y Z) (LQ (I r) Q))
  (L:∀ Z,I [] Z->Q .next Z):Gd (vD v xs b xs a0) Q:=by
 have J:∀ l Z,I l Z->Gd (vD v xs b l Z) Q:=by
  intro l
  induction l with
  | nil =>
   intro Z B
   exact ⟨.next,Z,qLj (D _ _ B),L Z B⟩
  | cons y r O =>
   intro Z B
   obtain ⟨f,Z',e,h⟩:=T y r Z B
   rw [qQw (D _ _ B),e]
   cases f with
   | next=>exact O Z' h
   | cont=>exact O Z' h
   | brk=>exact ⟨_,_,rfl,h⟩
   | ret u=>exact ⟨_,_,rfl,h⟩
 exact J xs a0 S
set_option tactic.hygienic true in
theorem qQo (hc:cx.calm=false) {x:Str} {it:X} {b:S} {v:V} {xs:List V} (L:ev cx.toCx it Z=.ok v a0) (hi:zV a0.toHp v=some xs) (I:List V->St->Prop) (O:I xs a0)
  (J:∀ l Z,I l Z->zV Z.toHp v=some xs) (T:∀ y r Z,I (y::r) Z->Gd (ex b cx (Z.set x y)) (LQ (I r) Q))
  (B:∀ Z,I [] Z->Q .next Z):Gd (ex (.each x it b) cx Z) Q:=by
 have D:ex (.each x it b) cx Z=vD v xs (λ u Z=>ex b cx (Z.set x u)) xs a0:=by
  rw [zAh,d0 (by rw [hc]; decide),Rs.bind_ok L,hi]
 rw [D]
 exact qZy I O J T B
set_option tactic.hygienic true in
theorem jN {o:X} {f:Str} {e:X} {v vo:V} {H:Hp} (u:ev cx.toCx e Z=.ok v a0) (B:ev cx.toCx o a0=.ok vo a7) (hs:cx.setA vo f v a7.toHp=some H) (h:Q .next { a7 with toHp:=H }):Gd (ex (.setA o f e) cx Z) Q:=by
 refine ⟨_,_,(Rs.bind_ok u:_).trans ((Rs.bind_ok B:_).trans ?_),h⟩
 show kD ((cx.setA vo f v a7.toHp).map _)=_
 rw [hs]; rfl
end
theorem Str.eq_of {a b:Str} (h:a.cps.toList=b.cps.toList):a=b:=by
 cases a; cases b; simp only at h; congr; exact Array.toList_inj.mp h
theorem Str.beq_list (a b:Str):(a == b)=(a.cps.toList == b.cps.toList):=by
 by_cases h:a=b
 ·subst h; simp
 ·have:a.cps.toList≠b.cps.toList:=λ q=>h (Str.eq_of q)
  rw [beq_eq_false_iff_ne.mpr h,beq_eq_false_iff_ne.mpr this]
section
variable {H:Hp} {a b:Int} {x y:Str} {cx:Sx} {Z a0 a7 aG:St} {Q:Fl->St->Prop}
theorem zRt:vG H .Eq (.int a) (.int b)=.ok (.bool (a == b)):=rfl
theorem zQe:vG H .NotEq (.int a) (.int b)=.ok (.bool (a != b)):=rfl
theorem zRs:vG H .Eq (.str x) (.str y)=.ok (.bool (x.cps.toList == y.cps.toList)):=by
 rw [← Str.beq_list]; rfl
theorem zRr:vG H .NotEq (.str x) (.str y)=.ok (.bool (x.cps.toList != y.cps.toList)):=by
 show Ov.ok (.bool (!(x == y)))=_
 rw [Str.beq_list]; rfl
theorem zQg:qJc H .Add (.int a) (.int b)=.ok (.int (a+b)):=rfl
theorem qZz (h:Q .brk Z):Gd (ex .brk cx Z) Q:=⟨_,_,rfl,h⟩
theorem zIa (h:Q .cont Z):Gd (ex .cont cx Z) Q:=⟨_,_,rfl,h⟩
set_option tactic.hygienic true in
theorem zIb {x y:Str} {e:X} {v:V} (u:ev cx.toCx e Z=.ok v a0) (h:Q .next ((a0.set x v).set y v)):Gd (ex (.asgs x y e) cx Z) Q:=⟨_,_,(Rs.bind_ok u:_),h⟩
set_option tactic.hygienic true in
theorem qCh {x:Str} {e:X} {v:V} (u:ev cx.toCx e Z=.ok v a0) (hs:a0.setC x v=some a7) (h:Q .next a7):Gd (ex (.asgC x e) cx Z) Q:=by
 refine ⟨_,a7,(Rs.bind_ok u:_).trans ?_,h⟩
 show kD (a0.setC x v)=_
 rw [hs]; rfl
set_option tactic.hygienic true in
theorem qUb {e:X} {v:V} (u:ev cx.toCx e Z=.ok v a0) (B:xP a0.toHp v=some true) (h:Q .next a0):Gd (ex (.assert e) cx Z) Q:=by
 refine ⟨.next,a0,(Rs.bind_ok u:_).trans ?_,h⟩
 unfold condS; rw [B]
set_option tactic.hygienic true in
theorem zHy {o:X} {f x:Str} {e:X} {xs:List V} {vo:V} {H:Hp} (u:ev cx.toCx e Z=.ok (.list xs) a0) (B:ev cx.toCx o (a0.add (.list xs))=.ok vo a7) (hs:cx.setA vo f (.ref a0.nxt) a7.toHp=some H) (h:Q .next (({ a7 with toHp:=H }:St).set x (.ref a0.nxt))):Gd (ex (.ownA o f x e) cx Z) Q:=by
 refine ⟨.next,_,(Rs.bind_ok u:_).trans ((Rs.bind_ok B:_).trans ?_),h⟩
 show kD ((cx.setA vo f (.ref a0.nxt) a7.toHp).map _)=_
 rw [hs]; rfl
theorem zPy {x u:Str} {ps:List (Str×Str)} {b:S} {v v':Str} {vt:V} {f:Nat->Nat} (hv:Z.loc.lookup x=some (.str v)) (hg:cx.gl u=some vt) (B:cx.tr vt=some f) (hs:qMt f ps v=some v') (h:Gd (ex b cx (Z.set x (.str v'))) Q):Gd (ex (.sq x u ps b) cx Z) Q:=by
 have e:ex (.sq x u ps b) cx Z=ex b cx (Z.set x (.str v')):=by
  rw [zNy,hv]
  show (cx.gl u).elim Rs.bad _=_
  rw [hg]
  show (cx.tr vt).elim Rs.bad _=_
  rw [B]
  show (qMt f ps v).elim Rs.bad _=_
  rw [hs]; rfl
 rw [e]; exact h
end
end Mine.Lake
namespace Mine.Lake.Rp
open PySem
theorem vO {y z:Ln} (u:z.length<=1):∀ (l:Ln) (k:Nat),(rp y z k l).length<=l.length
 | [],k=>by cases k <;> exact d7 _
 | c::l,0=>by
  by_cases h:(c::l).take y.length=y
  ·rw [show rp y z 0 (c::l)=z++rp y z (y.length - 1) l from c7 h,g7,m7]
   have:=vO (y:=y) u l (y.length - 1)
   exact m_c7 u this
  ·rw [show rp y z 0 (c::l)=c::rp y z 0 l from d0 h,m7,m7]
   exact u9 (vO u l 0)
 | c::l,k+1=>j6 (vO u l k)
theorem qHn {y z:Ln} {a:Nat}:∀ (l:Ln) (k:Nat),a∈rp y z k l->a∈z\/a∈l
 | [],k,h=>by cases k <;> cases h
 | c::l,0,h=>by
  by_cases hc:(c::l).take y.length=y
  ·rw [show rp y z 0 (c::l)=z++rp y z (y.length - 1) l from c7 hc,nU] at h
   rcases h with h | h
   ·exact .inl h
   ·exact (qHn l _ h).imp id (.tail _)
  ·rw [show rp y z 0 (c::l)=c::rp y z 0 l from d0 hc,pL] at h
   rcases h with h | h
   ·exact .inr (h ▸ .head _)
   ·exact (qHn l _ h).imp id (.tail _)
 | c::l,k+1,h=>(qHn l k h).imp id (.tail _)
def first (p:Ln):Ln:=lastp (four p)
end Mine.Lake.Rp
namespace Mine.Lake.Rp
open PySem PySem.W
def small (v:Str):Prop:=(∀ c∈v.cps.toList,c < 128)/\v.length<=1000
theorem qCx {v:Str} (h:∀ c∈v.cps.toList,c < 128):t5 v=true:=by
 unfold t5
 rw [Array.all_eq_true']
 intro c hc
 have:=h c (Array.mem_toList_iff.mpr hc)
 exact h8 (by exact d5 this (by decide))
theorem rep_step {v:Str} (hv:small v) {y z:Ln} (hy:y≠[]) (D:z.length<=1) (J:∀ c∈z,c < 128) :
  qDf v ⟨y.toArray⟩ ⟨z.toArray⟩=true/\small (u2 v ⟨y.toArray⟩ ⟨z.toArray⟩)/\(u2 v ⟨y.toArray⟩ ⟨z.toArray⟩).cps.toList=rp y z 0 v.cps.toList:=by
 obtain ⟨L,h2⟩:=hv
 have e:=qNm (x:=v) (z:=z) hy
 have u:(u2 v ⟨y.toArray⟩ ⟨z.toArray⟩).length<=v.length:=by
  have h3:(u2 v ⟨y.toArray⟩ ⟨z.toArray⟩).cps.toList.length<=v.cps.toList.length:=by rw [e]; exact vO D _ _
  rw [h9,h9] at h3
  exact h3
 have hs:∀ c∈(u2 v ⟨y.toArray⟩ ⟨z.toArray⟩).cps.toList,c < 128:=by
  intro c hc
  rw [e] at hc
  rcases qHn _ _ hc with q | q
  ·exact J c q
  ·exact L c q
 have B:(⟨z.toArray⟩:Str).length<=1:=by
  show z.toArray.size<=1
  rw [n7]; exact D
 refine ⟨?_,⟨hs,by exact d5 u h2⟩,e⟩
 unfold qDf
 rw [qCx hs,iS,d8]
 refine ⟨h8 ?_,h8 ?_⟩
 ·have:(v.length+1) * (⟨z.toArray⟩:Str).length<=(v.length+1) * 1:=dG _ B
  exact m_c8 h2 this
 ·have:(1000:Nat)<=g0:=by decide
  lia
theorem vW {a b:Str} {r:List (Str×Str)} {v:Str} (h:qDf v a b=true):qDe ((a,b)::r) v=qDe r (u2 v a b):=c7 h
noncomputable def zPe:List (Str×Str):=[("xxxxxxxx", "x"),("xxxx", "x"),("xx", "x"),("xx", "x"),("\nx", "\n")]
theorem zEr:zPe=[(⟨([120,120,120,120,120,120,120,120]:Ln).toArray⟩,⟨([120]:Ln).toArray⟩),(⟨([120,120,120,120]:Ln).toArray⟩,⟨([120]:Ln).toArray⟩),(⟨([120,120]:Ln).toArray⟩,⟨([120]:Ln).toArray⟩),(⟨([120,120]:Ln).toArray⟩,⟨([120]:Ln).toArray⟩),(⟨([10,120]:Ln).toArray⟩,⟨([10]:Ln).toArray⟩)]:=by decide +kernel
theorem zLb {f:Nat->Nat} (O:∀ c,c < 128->f c < 128) {v:Str} (hv:small v):∃ v',qMt f zPe v=some v'/\v'.cps.toList=lastp (four (v.cps.toList.map f)):=by
 have D:∀ c∈(kJ f v).cps.toList,c < 128:=by
  intro c hc
  have B:c∈v.cps.toList.map f:=hc
  refine bC λ u=>?_
  obtain ⟨d,h1,rfl⟩:=List.mem_map.mp B
  refine u ?_
  exact O d (hv.1 d h1)
 have S:(kJ f v).length=v.length:=by
  show (v.cps.toList.map f).toArray.size=v.cps.size
  rw [n7,k0,h9]
 have s0:small (kJ f v):=⟨D,by rw [S]; exact hv.2⟩
 have L:qRo f v=true:=by
  unfold qRo
  rw [qCx D,iS,fQ]
  exact λ c hc=>h8 (hv.1 c hc)
 have hx:∀ c∈([120]:Ln),c < 128:=by decide
 refine bC λ u=>?_
 obtain ⟨Y,U,e1⟩:=rep_step s0 (y:=[120,120,120,120,120,120,120,120]) (z:=[120]) (by decide) (by decide) hx
 obtain ⟨V,s2,e2⟩:=rep_step U (y:=[120,120,120,120]) (z:=[120]) (by decide) (by decide) hx
 obtain ⟨J,s3,e3⟩:=rep_step s2 (y:=[120,120]) (z:=[120]) (by decide) (by decide) hx
 obtain ⟨T,s4,e4⟩:=rep_step s3 (y:=[120,120]) (z:=[120]) (by decide) (by decide) hx
 obtain ⟨X,s5,e5⟩:=rep_step s4 (y:=[10,120]) (z:=[10]) (by decide) (by decide) (by decide)
 refine u ?_
 refine ⟨u2 _ ⟨([10,120]:Ln).toArray⟩ ⟨([10]:Ln).toArray⟩,?_,e5.trans ?_⟩
 ·unfold qMt
  rw [c7 L,zEr,vW Y,vW V,vW J,vW T,vW X]
  rfl
 ·rw [e4,e3,e2,e1]
  rfl
end Mine.Lake.Rp
namespace Mine.Lake.Rp
open PySem
structure Mk where
 level:Nat
 lno:Nat
 gl:Ln
 cont:Nat
deriving DecidableEq
set_option genCtorIdx true in
inductive Md where
 | out
 | txt (q w first:Nat)
noncomputable def qG (q w:Nat):Ln:=replicate (w+1) q
noncomputable def Mk.line (m:Mk):Mk:={ m with lno:=m.lno+1,gl:=if m.level=0 then m.gl++[m.lno+1] else m.gl }
def scan:Nat->Md->Ln->Mk->Option Mk
 | 0,_,_,_=>none
 | _+1,.out,[],m=>some m
 | n+1,.out,c::l,m =>
  if c=120 then scan n .out l m
  else if c=10 then scan n .out l m.line
  else if c=40 then scan n .out l { m with level:=m.level+1 }
  else if c=41 then scan n .out l { m with level:=m.level - 1 }
  else if c=34\/c=39 then (if (c::l).take 3=[c,c,c] then scan n (.txt c 2 m.lno) (l.drop 2) m else scan n (.txt c 0 m.lno) l m)
  else if c=35 then (if 10∈l then scan n .out (l.dropWhile (·≠10)) m else none)
  else if c=92 then (match l with
   | []=>none
   | d::l=>scan n .out l (if d=10 then { m with lno:=m.lno+1,cont:=if l=[] then 1 else m.cont } else m))
  else none
 | n+1,.txt _ _ first,[],m=>scan n .out [] { m with cont:=if m.lno=first+1 then 2 else 3 }
 | n+1,.txt q w first,c::l,m =>
  if c=120 then scan n (.txt q w first) l m
  else if (c::l).take (w+1)=qG q w then scan n .out (l.drop w) m
  else if c=10 then (if w=0 then scan n .out l m.line else scan n (.txt q w first) l { m with lno:=m.lno+1 })
  else if c=92 then (match l with
   | []=>none
   | d::l=>scan n (.txt q w first) l (if d=10 then { m with lno:=m.lno+1 } else m))
  else scan n (.txt q w first) l m
noncomputable def ends (m:Mk):Option (Ln×Nat) :=
 let c:=if m.cont≠2/\m.cont≠3/\0 < m.level then 4 else m.cont
 if decide (c=0)=decide (m.gl.getLast? = some m.lno) then some (if m.gl.getLast? = some m.lno then m.gl else m.gl++[m.lno],c) else none
def study (l:Ln):Option (Ln×Nat):=(scan 1000 .out l ⟨0,0,[0],0⟩).bind ends
end Mine.Lake.Rp
namespace Mine.Lake.Rp
open PySem StrLaws PySem.Builtin PySem.Builtin.Str
noncomputable def spl:Ln->Ln×List (Ln)
 | []=>([],[])
 | c::l=>if c=10 then ([],(spl l).1::(spl l).2) else (c::(spl l).1,(spl l).2)
section
variable {x:Str}
theorem wL:∀ (l:Ln) (i a:Nat),x.cps.toList.drop i=l->a<=i->i<=x.length ->
  (partsFrom x 1 a (oc [10] i 0 l)).map (·.cps.toList)=((x.cps.toList.drop a).take (i - a)++(spl l).1)::(spl l).2
 | [],i,a,h,ha,hi=>by
  have u:x.cps.toList.length=x.length:=h9
  have D:x.length<=i:=u ▸ wG h
  show [(strSub x a x.length).cps.toList]=[_++[]]
  rw [sub_list,fD hi D,cN]
 | c::l,i,a,h,ha,hi=>by
  have u:x.cps.toList.length=x.length:=h9
  have B:i < x.length:=u ▸ jQ h
  have J:x.cps.toList.drop (i+1)=l:=by
   rw [← gU,h]; rfl
  by_cases hc:c=10
  ·subst hc
   have e1:oc [10] i 0 (10::l)=i::oc [10] (i+1) 0 l:=c7 rfl
   have e2:spl (10::l)=([],(spl l).1::(spl l).2):=c7 rfl
   rw [e1,e2]
   show (strSub x a i).cps.toList::(partsFrom x 1 (i+1) _).map _=_
   rw [sub_list,wL l (i+1) (i+1) J (d7 _) B,lR,cN]
   rfl
  ·have e1:oc [10] i 0 (c::l)=oc [10] (i+1) 0 l:=d0 λ q=>by
    have:([c]:Ln)=[10]:=q
    cases this; exact hc rfl
   have e2:spl (c::l)=(c::(spl l).1,(spl l).2):=d0 hc
   rw [e1,e2,wL l (i+1) a J (j6 ha) B]
   have e3:(x.cps.toList.drop a).take (i+1 - a)=(x.cps.toList.drop a).take (i - a)++[c]:=by
    rw [pP ha,List.take_add_one]
    congr 1
    rw [eB,dX ha]
    have:(x.cps.toList.drop i)[0]? = some c:=by rw [h]; rfl
    rw [eB,iA] at this
    rw [this]; rfl
   rw [e3,u6]; rfl
set_option tactic.hygienic true in
theorem qWo:(lN x ⟨#[10]⟩).map (·.cps.toList)=(spl x.cps.toList).1::(spl x.cps.toList).2:=by
 have D:occurrences x ⟨#[10]⟩ 0 x.length (x.length+1)=oc [10] 0 0 x.cps.toList:=qHw (x:=x) (y:=[10]) (by decide)
 have hp:=wL x.cps.toList 0 0 rfl (d7 _) (m9 _) (x:=x)
 have L:partsBetween x (oc [10] 0 0 x.cps.toList) 1=partsFrom x 1 0 (oc [10] 0 0 x.cps.toList):=nT ..
 have B:(partsBetween x (oc [10] 0 0 x.cps.toList) 1).map (·.cps.toList)=(spl x.cps.toList).1::(spl x.cps.toList).2:=by
  rw [L,hp]; simp
 have u:oc [10] 0 0 x.cps.toList=[]->([x]:List Str).map (·.cps.toList)=(spl x.cps.toList).1::(spl x.cps.toList).2:=λ e=>by
  rw [← B,e]
  show [x.cps.toList]=[(strSub x 0 x.length).cps.toList]
  rw [sub_list]
  have:x.cps.toList.length=x.length:=h9
  rw [lM,pQ,← this,List.take_length]
 unfold lN
 rw [D]
 split
 ·rename_i hc
  refine u ?_
  rw [lS,j4,j4] at hc
  rcases hc with hc | hc
  ·have J:x.length=0:=by
    have:(⟨#[10]⟩:Str).length=1:=rfl
    simp_all
   have:x.cps.toList=[]:=dU (by rw [h9]; exact J)
   rw [this]; rfl
  ·exfalso
   have O:oY ⟨#[10]⟩=1:=by decide +kernel
   rw [O] at hc
   unfold oY at hc
   split at hc
   ·exact gV 1 hc
   ·split at hc <;> lia
 ·split
  ·rename_i hc
   exact u (List.isEmpty_iff.mp hc)
  ·exact B
end
end Mine.Lake.Rp
namespace Mine.Lake.Rp
open PySem
inductive Sq:Ln->Ln->Prop
 | nil:Sq [] []
 | cons (c k:Nat) {l l':Ln}:(k=0\/c=120\/c=10)->Sq l l'->Sq (c::(replicate k 120++l)) (c::l')
theorem uB {n c:Nat} {l:Ln} {m:Mk}:scan (n+1) .out (c::l) m=(if c=120 then scan n .out l m
  else if c=10 then scan n .out l m.line
  else if c=40 then scan n .out l { m with level:=m.level+1 }
  else if c=41 then scan n .out l { m with level:=m.level - 1 }
  else if c=34\/c=39 then (if (c::l).take 3=[c,c,c] then scan n (.txt c 2 m.lno) (l.drop 2) m else scan n (.txt c 0 m.lno) l m)
  else if c=35 then (if 10∈l then scan n .out (l.dropWhile (·≠10)) m else none)
  else if c=92 then (match l with
   | []=>none
   | d::l=>scan n .out l (if d=10 then { m with lno:=m.lno+1,cont:=if l=[] then 1 else m.cont } else m))
  else none):=rfl
theorem uA {n c q w f:Nat} {l:Ln} {m:Mk}:scan (n+1) (.txt q w f) (c::l) m=(if c=120 then scan n (.txt q w f) l m
  else if (c::l).take (w+1)=qG q w then scan n .out (l.drop w) m
  else if c=10 then (if w=0 then scan n .out l m.line else scan n (.txt q w f) l { m with lno:=m.lno+1 })
  else if c=92 then (match l with
   | []=>none
   | d::l=>scan n (.txt q w f) l (if d=10 then { m with lno:=m.lno+1 } else m))
  else scan n (.txt q w f) l m):=rfl
theorem zN {α:Type} {p:Prop} [Decidable p] {a b B u:α} (D:p->a=B) (h2:¬ p->b=u):(if p then a else b)=if p then B else u:=by
 split
 ·exact D ‹_›
 ·exact h2 ‹_›
theorem qOp {l:Ln}:(l.dropWhile (·≠10)).length<=l.length:=by
 induction l with
 | nil=>exact d7 _
 | cons c l u =>
  rw [fR]
  split
  ·exact j6 u
  ·exact d7 _
theorem yP {l:Ln} {k:Nat}:(l.drop k).length<=l.length:=by rw [u0]; exact lO _ _
theorem qAc:∀ (n:Nat) (md:Md) (l:Ln) (m:Mk),l.length+2<=n->scan (n+1) md l m=scan n md l m
 | 0,_,_,_,h=>f8 h (fW _)
 | n+1,.out,[],m,h=>rfl
 | n+1,.txt q w f,[],m,h=>by
  cases n with
  | zero=>exact f8 (v5 h) (fW _)
  | succ n=>rfl
 | n+1,.out,c::l,m,h=>by
  have h':l.length+2<=n:=v5 h
  have u:∀ md {l':Ln} m,l'.length<=l.length->scan (n+1) md l' m=scan n md l' m:=λ md l' m q=>qAc n md l' m (d5 (m6 q 2) h')
  rw [uB,uB]
  refine zN (λ z=>u _ _ (d7 _)) λ z=>zN (λ z=>u _ _ (d7 _)) λ z=>zN (λ z=>u _ _ (d7 _)) λ z=>zN (λ z=>u _ _ (d7 _)) λ z=>zN (λ z=>zN (λ z=>u _ _ yP) λ z=>u _ _ (d7 _)) λ z=>zN (λ z=>zN (λ z=>u _ _ qOp) λ z=>rfl) λ z=>zN (λ z=>?_) λ z=>rfl
  cases l with
  | nil=>rfl
  | cons d l=>exact u _ _ (dY _)
 | n+1,.txt q w f,c::l,m,h=>by
  have h':l.length+2<=n:=v5 h
  have u:∀ md {l':Ln} m,l'.length<=l.length->scan (n+1) md l' m=scan n md l' m:=λ md l' m q=>qAc n md l' m (d5 (m6 q 2) h')
  rw [uA,uA]
  refine zN (λ z=>u _ _ (d7 _)) λ z=>zN (λ z=>u _ _ yP) λ z=>zN (λ z=>zN (λ z=>u _ _ (d7 _)) λ z=>u _ _ (d7 _)) λ z=>zN (λ z=>?_) λ z=>u _ _ (d7 _)
  cases l with
  | nil=>rfl
  | cons d l=>exact u _ _ (dY _)
theorem qAb {n:Nat} {md:Md} {l:Ln} {m:Mk} (h:l.length+2<=n):∀ k,scan (n+k) md l m=scan n md l m
 | 0=>rfl
 | k+1=>(qAc (n+k) md l m (d5 h (n4 n k))).trans (qAb h k)
theorem zDy {a b:Nat} {md:Md} {l:Ln} {m:Mk} (ha:l.length+2<=a) (B:l.length+2<=b):scan a md l m=scan b md l m:=by
 have u:=qAb (md:=md) (m:=m) (d7 (l.length+2)) (a - (l.length+2))
 have h2:=qAb (md:=md) (m:=m) (d7 (l.length+2)) (b - (l.length+2))
 rw [dX ha] at u
 rw [dX B] at h2
 exact u.trans h2.symm
def march (md:Md) (l:Ln) (m:Mk):Option Mk:=scan (l.length+2) md l m
theorem qDn {n:Nat} {md:Md} {l:Ln} {m:Mk} (h:l.length+2<=n):scan n md l m=march md l m:=zDy h (d7 _)
theorem mout {c:Nat} {l:Ln} {m:Mk}:march .out (c::l) m=(if c=120 then march .out l m
  else if c=10 then march .out l m.line
  else if c=40 then march .out l { m with level:=m.level+1 }
  else if c=41 then march .out l { m with level:=m.level - 1 }
  else if c=34\/c=39 then (if (c::l).take 3=[c,c,c] then march (.txt c 2 m.lno) (l.drop 2) m else march (.txt c 0 m.lno) l m)
  else if c=35 then (if 10∈l then march .out (l.dropWhile (·≠10)) m else none)
  else if c=92 then (match l with
   | []=>none
   | d::l=>march .out l (if d=10 then { m with lno:=m.lno+1,cont:=if l=[] then 1 else m.cont } else m))
  else none):=by
 have u:∀ md {l':Ln} m,l'.length<=l.length->scan (l.length+2) md l' m=march md l' m:=λ md l' m q=>qDn (m6 q 2)
 show scan (l.length+2+1) .out (c::l) m=_
 rw [uB]
 refine zN (λ z=>u _ _ (d7 _)) λ z=>zN (λ z=>u _ _ (d7 _)) λ z=>zN (λ z=>u _ _ (d7 _)) λ z=>zN (λ z=>u _ _ (d7 _)) λ z=>zN (λ z=>zN (λ z=>u _ _ yP) λ z=>u _ _ (d7 _)) λ z=>zN (λ z=>zN (λ z=>u _ _ qOp) λ z=>rfl) λ z=>zN (λ z=>?_) λ z=>rfl
 cases l with
 | nil=>rfl
 | cons d l=>exact u _ _ (dY _)
theorem mtxt {c q w f:Nat} {l:Ln} {m:Mk}:march (.txt q w f) (c::l) m=(if c=120 then march (.txt q w f) l m
  else if (c::l).take (w+1)=qG q w then march .out (l.drop w) m
  else if c=10 then (if w=0 then march .out l m.line else march (.txt q w f) l { m with lno:=m.lno+1 })
  else if c=92 then (match l with
   | []=>none
   | d::l=>march (.txt q w f) l (if d=10 then { m with lno:=m.lno+1 } else m))
  else march (.txt q w f) l m):=by
 have u:∀ md {l':Ln} m,l'.length<=l.length->scan (l.length+2) md l' m=march md l' m:=λ md l' m q=>qDn (m6 q 2)
 show scan (l.length+2+1) (.txt q w f) (c::l) m=_
 rw [uA]
 refine zN (λ z=>u _ _ (d7 _)) λ z=>zN (λ z=>u _ _ yP) λ z=>zN (λ z=>zN (λ z=>u _ _ (d7 _)) λ z=>u _ _ (d7 _)) λ z=>zN (λ z=>?_) λ z=>u _ _ (d7 _)
 cases l with
 | nil=>rfl
 | cons d l=>exact u _ _ (dY _)
theorem mxs {md:Md} {l:Ln} {m:Mk}:∀ k,march md (replicate k 120++l) m=march md l m
 | 0=>rfl
 | k+1=>by
  rw [gK,iV]
  cases md with
  | out=>rw [mout,c7 rfl]; exact mxs k
  | txt q w f=>rw [mtxt,c7 rfl]; exact mxs k
theorem Sq.mem {l l':Ln} (h:Sq l l'):10∈l ↔ 10∈l':=by
 induction h with
 | nil=>exact Iff.rfl
 | cons c k _ _ u =>
  rw [pL,pL,nU,u]
  exact ⟨λ q=>q.imp id λ q=>q.elim (λ w=>f8 (gQ w) (by decide)) id,λ q=>q.imp id .inr⟩
theorem Sq.dw {l l':Ln} (h:Sq l l'):Sq (l.dropWhile (·≠10)) (l'.dropWhile (·≠10)):=by
 induction h with
 | nil=>exact .nil
 | cons c k hk h B =>
  rw [fR,fR]
  split
  ·refine Eq.mp (g8 (Sq · _) ?_) B
   induction k with
   | zero=>rfl
   | succ k u=>rw [gK,iV,fR,c7 (by decide)]; exact u (hk.elim (λ q=>nomatch q) .inr)
  ·exact .cons c k hk h
theorem Sq.quote {q:Nat} (u:q≠120/\q≠10):∀ (j:Nat) {l l':Ln},Sq l l'->(l.take j=replicate j q ↔ l'.take j=replicate j q)/\(l.take j=replicate j q->Sq (l.drop j) (l'.drop j))
 | 0,_,_,h=>⟨Iff.rfl,λ z=>h⟩
 | j+1,_,_,.nil=>⟨Iff.rfl,λ z=>.nil⟩
 | j+1,_,_,.cons c k hk h=>by
  rw [dE,dE,gK,List.drop_succ_cons,List.drop_succ_cons]
  by_cases hc:c=q
  ·have D:k=0:=hk.elim id λ w=>f8 (w.imp (λ w=>hc ▸ w) λ w=>hc ▸ w:q=120\/q=10) λ w=>w.elim u.1 u.2
   subst D hc
   obtain ⟨B,h2⟩:=Sq.quote u j h
   exact ⟨⟨λ e=>by rw [← j5 e |>.2,B.mp (j5 e).2]; exact g8 _ (j5 e).2.symm,λ e=>g8 (c::·) (B.mpr (j5 e).2)⟩,λ e=>h2 (j5 e).2⟩
  ·exact ⟨⟨λ e=>f8 (j5 e).1 hc,λ e=>f8 (j5 e).1 hc⟩,λ e=>f8 (j5 e).1 hc⟩
def NX (l:Ln):Prop:=∀ u,l≠u++[120]
theorem NX.suf {l v:Ln} (h:NX l) (q:v <:+ l):NX v:=by
 obtain ⟨t,rfl⟩:=q
 exact λ u e=>h (t++u) (by rw [e,u6])
theorem NX.tail {c:Nat} {l:Ln} (h:NX (c::l)):NX l:=h.suf (List.suffix_cons _ _)
theorem NX.skip {k:Nat} {l:Ln} (h:NX (replicate k 120++l)):NX l:=h.suf (List.suffix_append _ _)
theorem zNi {d:Nat} {l:Ln} {m:Mk}:march .out (92::d::l) m=march .out l (if d=10 then { m with lno:=m.lno+1,cont:=if l=[] then 1 else m.cont } else m):=by
 rw [mout]; rfl
set_option tactic.hygienic true in
theorem xT:∀ (n:Nat) {l l':Ln} (md:Md) (m:Mk),l.length<=n->(match md with | .txt q _ _=>q≠120/\q≠10 | .out=>True)->NX l->Sq l l'->march md l m=march md l' m
 | 0,_,_,md,m,h,_,_,hs=>by
  cases hs with
  | nil=>rfl
  | cons=>exact f8 h (fW _)
 | n+1,_,_,.out,m,h,hq,hx,hs0=>by
  cases hs0 with
  | nil=>rfl
  | cons c k hk hs =>
  rename_i l l'
  have S:(replicate k 120++l).length<=n:=v5 h
  have B:=hx.tail
  have J:l.length<=n:=d5 (by rw [g7]; exact n8 _ _) S
  have D:∀ m,march .out (replicate k 120++l) m=march .out l' m:=λ m=>(mxs k).trans (xT n .out m J trivial B.skip hs)
  rw [mout,mout]
  refine zN (λ y=>D _) λ U=>zN (λ y=>D _) λ V=>?_
  have X:k=0:=hk.elim id λ w=>f8 w λ w=>w.elim U V
  subst X
  have D:∀ md m,(match md with | .txt q _ _=>q≠120/\q≠10 | .out=>True)->march md l m=march md l' m:=λ md m q=>xT n md m J q B.skip hs
  refine zN (λ y=>D _ _ trivial) λ y=>zN (λ y=>D _ _ trivial) λ y=>zN (λ w=>?_) λ y=>zN (λ y=>?_) λ y=>zN (λ y=>?_) λ y=>rfl
  ·have hc:c≠120/\c≠10:=⟨U,V⟩
   obtain ⟨T,h2⟩:=Sq.quote hc 2 hs
   have e1:(c::(replicate 0 120++l)).take 3=[c,c,c] ↔ (c::l').take 3=[c,c,c]:=by
    show c::l.take 2=c::replicate 2 c ↔ c::l'.take 2=c::replicate 2 c
    exact ⟨λ e=>g8 (c::·) (T.mp (j5 e).2),λ e=>g8 (c::·) (T.mpr (j5 e).2)⟩
   by_cases e:(c::l').take 3=[c,c,c]
   ·rw [c7 e,c7 (e1.mpr e)]
    have e2:l.take 2=replicate 2 c:=(j5 (e1.mpr e)).2
    exact xT n _ _ (d5 yP J) hc (B.suf (mW 2 l)) (h2 e2)
   ·rw [d0 e,d0 λ q=>e (e1.mp q)]
    exact D _ _ hc
  ·have e1:10∈(replicate 0 120++l) ↔ 10∈l':=hs.mem
   by_cases e:10∈l'
   ·rw [c7 e,c7 (e1.mpr e)]
    exact xT n _ _ (d5 qOp J) trivial (B.suf (nY _)) hs.dw
   ·rw [d0 e,d0 λ q=>e (e1.mp q)]
  ·clear D
   cases hs with
   | nil=>rfl
   | @cons d j u O hj hs =>
    show march .out (replicate j 120++u) _=march .out O _
    rw [mxs]
    have L:NX (replicate j 120++u):=NX.tail (c:=d) B
    have Y:u.length<=n:=d5 (by rw [g7,m7,g7]; lia) S
    have e:(replicate j 120++u=[]) ↔ (O=[]):=by
     cases hs with
     | nil =>
      cases j with
      | zero=>exact ⟨λ y=>rfl,λ y=>rfl⟩
      | succ j =>
       exact f8 (by rw [cN,oU]) (L (replicate j 120))
     | cons a b _ _=>exact Iff.intro (λ q=>nomatch (List.append_eq_nil_iff.mp q).2) (λ q=>nomatch q)
    have e2:(if (replicate j 120++u=[]) then 1 else m.cont)=if O=[] then 1 else m.cont:=by
     by_cases q:O=[]
     ·rw [c7 q,c7 (e.mpr q)]
     ·rw [d0 q,d0 λ w=>q (e.mp w)]
    rw [e2]
    exact xT n .out _ Y trivial L.skip hs
 | n+1,_,_,.txt q w f,m,h,hq,hx,hs0=>by
  cases hs0 with
  | nil=>rfl
  | cons c k hk hs =>
  rename_i l l'
  have S:(replicate k 120++l).length<=n:=v5 h
  have B:=hx.tail
  have J:l.length<=n:=d5 (by rw [g7]; exact n8 _ _) S
  have D:∀ md m,(match md with | .txt q _ _=>q≠120/\q≠10 | .out=>True)->march md (replicate k 120++l) m=march md l' m:=λ md m q=>(mxs k).trans (xT n md m J q B.skip hs)
  rw [mtxt,mtxt]
  refine zN (λ y=>D _ _ hq) λ U=>?_
  obtain ⟨T,h2⟩:=Sq.quote (q:=q) hq (w+1) (l:=c::(replicate k 120++l)) (l':=c::l') (.cons c k hk hs)
  by_cases e:(c::l').take (w+1)=qG q w
  ·rw [c7 e,c7 (show (c::(replicate k 120++l)).take (w+1)=qG q w from T.mpr e)]
   exact xT n .out m (d5 yP S) trivial (B.suf (mW _ _)) (h2 (T.mpr e))
  rw [d0 e,d0 (show ¬ (c::(replicate k 120++l)).take (w+1)=qG q w from λ z=>e (T.mp z))]
  refine zN (λ y=>zN (λ y=>D _ _ trivial) λ y=>D _ _ hq) λ V=>zN (λ y=>?_) λ y=>D _ _ hq
  have X:k=0:=hk.elim id λ w=>f8 w λ w=>w.elim U V
  subst X
  clear D
  cases hs with
  | nil=>rfl
  | @cons d j u O hj hs =>
   show march (.txt q w f) (replicate j 120++u) _=march (.txt q w f) O _
   rw [mxs]
   have L:NX (replicate j 120++u):=NX.tail (c:=d) B
   exact xT n _ _ (d5 (by rw [g7,m7,g7]; lia) S) hq L.skip hs
theorem qPp {y z:Ln}:∀ (k:Nat) (l:Ln),rp y z k l=rp y z 0 (l.drop k)
 | 0,_=>rfl
 | k+1,[]=>by rw [oZ]; rfl
 | k+1,c::l=>qPp k l
theorem qXn {y:Ln} {c k:Nat} (hc:c=120\/c=10) (hy:y=c::replicate k 120):∀ (n:Nat) {l:Ln},l.length<=n->Sq l (rp y [c] 0 l)
 | _,[],_=>.nil
 | 0,_::_,h=>f8 h (fW _)
 | n+1,a::l,h=>by
  by_cases e:(a::l).take y.length=y
  ·have e1:rp y [c] 0 (a::l)=c::rp y [c] 0 (l.drop k):=by
    show (if (a::l).take y.length=y then [c]++rp y [c] (y.length - 1) l else _)=_
    rw [c7 e,qPp,hy,m7,dM]; rfl
   rw [e1]
   rw [hy,m7,dM,dE] at e
   obtain rfl:=(j5 e).1
   have e2:l=replicate k 120++l.drop k:=by rw [← (j5 e).2,v0]
   have u:=qXn hc hy n (l:=l.drop k) (d5 yP (v5 h))
   have:=Sq.cons a k (.inr hc) u
   rwa [← e2] at this
  ·have e1:rp y [c] 0 (a::l)=a::rp y [c] 0 l:=d0 e
   rw [e1]
   exact .cons a 0 (.inl rfl) (qXn hc hy n (v5 h))
theorem isLine.nx {l:Ln} (h:isLine l):NX l:=by
 obtain ⟨q,rfl⟩:=h
 exact λ u e=>by have:=(List.append_inj' e rfl).2; cases this
theorem qWj {l:Ln} (h:isLine l) (O:l.length<=998):study (lastp (four l))=(march .out l ⟨0,0,[0],0⟩).bind ends/\scan 1000 .out (lastp (four l)) ⟨0,0,[0],0⟩=march .out l ⟨0,0,[0],0⟩:=by
 have u:∀ {y:Ln} {c k:Nat} {p:Ln},(c=120\/c=10)->y=c::replicate k 120->isLine p->march .out p ⟨0,0,[0],0⟩=march .out (rp y [c] 0 p) ⟨0,0,[0],0⟩:=λ hc hy hp=>xT _ .out _ (d7 _) trivial hp.nx (qXn hc hy _ (d7 _))
 have D:∀ {y:Ln} {p:Ln},10 ∉ y->y≠[]->isLine p->isLine (rp y [120] 0 p):=λ hy S hp=>by
  obtain ⟨q,rfl⟩:=hp; exact uE hy S (m9 _)
 have p1:=D (y:=[120,120,120,120,120,120,120,120]) (by decide) (by decide) h
 have p2:=D (y:=[120,120,120,120]) (by decide) (by decide) p1
 have p3:=D (y:=[120,120]) (by decide) (by decide) p2
 have p4:=D (y:=[120,120]) (by decide) (by decide) p3
 have e1:=u (y:=[120,120,120,120,120,120,120,120]) (k:=7) (.inl rfl) rfl h
 have e2:=u (y:=[120,120,120,120]) (k:=3) (.inl rfl) rfl p1
 have e3:=u (y:=[120,120]) (k:=1) (.inl rfl) rfl p2
 have e4:=u (y:=[120,120]) (k:=1) (.inl rfl) rfl p3
 have e5:=u (y:=[10,120]) (k:=1) (.inr rfl) rfl p4
 have e:=(((e1.trans e2).trans e3).trans e4).trans e5
 have J:(lastp (four l)).length<=998:=by
  unfold lastp four
  have B:∀ {y:Ln} {c:Nat} (p:Ln),(rp y [c] 0 p).length<=p.length:=λ p=>vO (d7 _) p 0
  exact d5 (B _) (d5 (B _) (d5 (B _) (d5 (B _) (d5 (B _) O))))
 have L:scan 1000 .out (lastp (four l)) ⟨0,0,[0],0⟩=march .out l ⟨0,0,[0],0⟩:=(qDn (m6 J 2)).trans e.symm
 exact ⟨by unfold study; rw [L],L⟩
end Mine.Lake.Rp
namespace Mine.Lake
open PySem PySem.W PyProof.Rows
theorem qC {Z:St} {x:Str} {v:V}:(Z.set x v).loc.lookup x=some v:=by
 show (wY x v Z.loc).lookup x=_
 rw [zB,c7 rfl]
theorem qA {Z:St} {x y:Str} {v:V} {o:Option V} (u:(y == x)=false) (h:Z.loc.lookup y=o):(Z.set x v).loc.lookup y=o:=by
 show (wY x v Z.loc).lookup y=_
 rw [zB,d0 (λ q=>by rw [q] at u; simp at u),h]
section
variable {cx:Cx} {Z:St}
theorem zX2 {Z:St} {x y:Str} {v:V} {o:Option V} (h:Z.loc.lookup y=o) (n:(y == x)=false:=by decide):(Z.set x v).loc.lookup y=o:=qA n h
theorem qB {x:Str} {v:V} (h:Z.loc.lookup x=some v):ev cx (.var x) Z=.ok v Z:=by rw [zIf,h]
theorem qZ {x:Str} {v:V} (h:cx.gl x=some v):ev cx (.glob x) Z=.ok v Z:=by rw [zAk,h]
theorem yU {op:Operator} {a b:X} {x y v:V} (ha:ev cx a Z=.ok x Z) (u:ev cx b Z=.ok y Z) (h:qJc Z.toHp op x y=.ok v):ev cx (.bin op a b) Z=.ok v Z:=by
 rw [zIm,Rs.bind_ok ha,Rs.bind_ok u,h]; rfl
theorem zP {a b:X} {x y:Int} (ha:ev cx a Z=.ok (.int x) Z) (u:ev cx b Z=.ok (.int y) Z):ev cx (.bin .Add a b) Z=.ok (.int (x+y)) Z:=yU ha u rfl
theorem yS {a b:X} {x y:Int} (ha:ev cx a Z=.ok (.int x) Z) (u:ev cx b Z=.ok (.int y) Z):ev cx (.bin .Sub a b) Z=.ok (.int (x - y)) Z:=yU ha u rfl
theorem xG {op:CmpOp} {a b:X} {x y v:V} (ha:ev cx a Z=.ok x Z) (u:ev cx b Z=.ok y Z) (h:vG Z.toHp op x y=.ok v):ev cx (.cmp op a b) Z=.ok v Z:=by
 rw [qQs,Rs.bind_ok ha,Rs.bind_ok u,h]; rfl
theorem vT {a b:X} {x y:Int} (ha:ev cx a Z=.ok (.int x) Z) (u:ev cx b Z=.ok (.int y) Z):ev cx (.cmp .Eq a b) Z=.ok (.bool (x == y)) Z:=xG ha u zRt
theorem qJm {a b:X} {x y:Int} (ha:ev cx a Z=.ok (.int x) Z) (u:ev cx b Z=.ok (.int y) Z):ev cx (.cmp .NotEq a b) Z=.ok (.bool (x != y)) Z:=xG ha u zQe
theorem qJn {a b:X} {x y:Int} (ha:ev cx a Z=.ok (.int x) Z) (u:ev cx b Z=.ok (.int y) Z):ev cx (.cmp .Lt a b) Z=.ok (.bool (decide (x < y))) Z:=xG ha u rfl
theorem zJv {a b:X} {x y:Int} (ha:ev cx a Z=.ok (.int x) Z) (u:ev cx b Z=.ok (.int y) Z):ev cx (.cmp .Gt a b) Z=.ok (.bool (decide (x > y))) Z:=xG ha u rfl
theorem zJw {a b:X} {x y:Int} (ha:ev cx a Z=.ok (.int x) Z) (u:ev cx b Z=.ok (.int y) Z):ev cx (.cmp .GtE a b) Z=.ok (.bool (decide (x ≥ y))) Z:=xG ha u rfl
theorem zOu {a b:X} {x y:Bool} (ha:ev cx a Z=.ok (.bool x) Z) (u:ev cx b Z=.ok (.bool y) Z):ev cx (.cmp .Eq a b) Z=.ok (.bool (x == y)) Z:=xG ha u (by cases x <;> cases y <;> rfl)
theorem qCn {a b:X} {x y:Str} (ha:ev cx a Z=.ok (.str x) Z) (u:ev cx b Z=.ok (.str y) Z):ev cx (.cmp .Eq a b) Z=.ok (.bool (x.cps.toList == y.cps.toList)) Z:=xG ha u zRs
theorem zOt {a b:X} {x y:Str} (ha:ev cx a Z=.ok (.str x) Z) (u:ev cx b Z=.ok (.str y) Z):ev cx (.cmp .NotEq a b) Z=.ok (.bool (x.cps.toList != y.cps.toList)) Z:=xG ha u zRr
theorem qVu {a b:X} {p q:Bool} (ha:ev cx a Z=.ok (.bool p) Z) (u:p=false->ev cx b Z=.ok (.bool q) Z):ev cx (.or a b) Z=.ok (.bool (p || q)) Z:=by
 rw [qOk,Rs.bind_ok ha]
 cases p with
 | true=>rfl
 | false=>exact u rfl
theorem yC {a b:X} {p q:Bool} (ha:ev cx a Z=.ok (.bool p) Z) (u:p=true->ev cx b Z=.ok (.bool q) Z):ev cx (.and a b) Z=.ok (.bool (p && q)) Z:=by
 rw [zIn,Rs.bind_ok ha]
 cases p with
 | true=>exact u rfl
 | false=>rfl
theorem xF {a i:X} {x y v:V} (ha:ev cx a Z=.ok x Z) (hi:ev cx i Z=.ok y Z) (h:wF Z.toHp x y=.ok v):ev cx (.idx a i) Z=.ok v Z:=by
 rw [zIl,Rs.bind_ok ha,Rs.bind_ok hi,h]; rfl
theorem jR {a u hi:X} {x l h v:V} (ha:ev cx a Z=.ok x Z) (D:ev cx u Z=.ok l Z) (B:ev cx hi Z=.ok h Z) (hv:wX Z.toHp x l h=.ok v):ev cx (.slc a u hi) Z=.ok v Z:=by
 rw [zIh,Rs.bind_ok ha,Rs.bind_ok D,Rs.bind_ok B,hv]; rfl
theorem yI {o:X} {f:Str} {x v:V} (u:ev cx o Z=.ok x Z) (h:cx.fld x f Z.toHp=.ok v):ev cx (.attr o f) Z=.ok v Z:=by
 rw [zAm,Rs.bind_ok u,h]; rfl
theorem yB {i:Int}:ev cx (.neg (.int i)) Z=.ok (.int (-i)) Z:=rfl
theorem qJ {a b:X} {x:V} {xs:List V} (ha:ev cx a Z=.ok x Z) (u:ev cx b Z=.ok (.list xs) Z):ev cx (.cons a b) Z=.ok (.list (x::xs)) Z:=by
 rw [qLe,Rs.bind_ok ha,Rs.bind_ok u]; rfl
theorem xO {es:X} {xs:List V} (h:ev cx es Z=.ok (.list xs) Z) (u:xs.length<=g0):ev cx (.list es) Z=.ok (.list xs) Z:=by
 rw [zAj,Rs.bind_ok h]; exact c7 u
theorem qVt {es:X} {xs:List V} (h:ev cx es Z=.ok (.list xs) Z) (u:xs.length<=g0):ev cx (.tup es) Z=.ok (.tup xs) Z:=by
 rw [zIg,Rs.bind_ok h]; exact c7 u
theorem xZ {f as:X} {vf v:V} {xs:List V} {Z':St} (u:ev cx f Z=.ok vf Z) (ha:ev cx as Z=.ok (.list xs) Z) (h:cx.app vf xs Z.toHp=.ok v Z'):ev cx (.call f as) Z=.ok v { Z with toHp:=Z'.toHp }:=by
 rw [qLf,Rs.bind_ok u,Rs.bind_ok ha]
 show (cx.app vf xs Z.toHp).lift Z=_
 rw [h]; rfl
theorem xM {o as:X} {m:Str} {vo vf v:V} {first xs:List V} {Z':St} (u:ev cx o Z=.ok vo Z) (hg:cx.get vo m Z.toHp=some (vf,first)) (ha:ev cx as Z=.ok (.list xs) Z) (h:cx.app vf (first++xs) Z.toHp=.ok v Z'):ev cx (.meth o m as) Z=.ok v { Z with toHp:=Z'.toHp }:=by
 rw [qLd,Rs.bind_ok u,hg]
 show (ev cx as Z).bind _=_
 rw [Rs.bind_ok ha]
 show (cx.app vf (first++xs) Z.toHp).lift Z=_
 rw [h]; rfl
end
section
variable {cx:Sx} {Z a0:St} {Q:Fl->St->Prop}
def qVl (b:S) (cx:Sx) (Q:Fl->St->Prop) (f:Fl) (a0:St):Prop:=match f with | .next=>Gd (ex b cx a0) Q | f=>Q f a0
theorem qY {a b:S} (h:Gd (ex a cx Z) (qVl b cx Q)):Gd (ex (.seq a b) cx Z) Q:=qD (h.mono λ f z q=>by cases f <;> exact q)
theorem qZx {e:X} {a b c:S} {t:Bool} (B:ev cx.toCx e Z=.ok (.bool t) a0) (u:t=true->Gd (ex a cx a0) (qVl c cx Q)) (h2:t=false->Gd (ex b cx a0) (qVl c cx Q)):Gd (ex (.seq (.ite e a b) c) cx Z) Q :=
 qY (qT B (by cases t <;> rfl) u h2)
theorem zW {e:X} {a c:S} {t:Bool} (B:ev cx.toCx e Z=.ok (.bool t) Z) (u:t=true->Gd (ex a cx Z) (qVl c cx Q)) (h2:t=false->Gd (ex c cx Z) Q):Gd (ex (.seq (.ite e a .nil) c) cx Z) Q :=
 qZx B u λ q=>gd_nil (h2 q)
theorem xB (h:Q .cont Z):Gd (ex (.seq .cont .nil) cx Z) Q:=qD (zIa h)
theorem qE {x:Str} {e:X} {c:S} {v:V} (u:ev cx.toCx e Z=.ok v a0) (h:Gd (ex c cx (a0.set x v)) Q):Gd (ex (.seq (.asg x e) c) cx Z) Q:=qD (vA u h)
theorem xI {e:X} {c:S} {v:V} (u:ev cx.toCx e Z=.ok v a0) (h:Gd (ex c cx a0) Q):Gd (ex (.seq (.expr e) c) cx Z) Q:=qD (zHz u h)
theorem xA {e:X} {c:S} (u:ev cx.toCx e Z=.ok (.bool true) Z) (h:Gd (ex c cx Z) Q):Gd (ex (.seq (.assert e) c) cx Z) Q:=qD (qUb u rfl h)
end
section
variable {x:Str} {p c:Nat} {l:Ln} {H:Hp}
theorem vK (h:x.cps.toList.drop p=c::l):p < x.length:=by
 have h2:=g8 List.length h
 rw [u0,h9,m7] at h2
 have:x.length=x.cps.size:=rfl
 exact this ▸ fK h2
theorem kG (h:x.cps.toList.drop p=c::l):x.cps.toList.drop (p+1)=l:=by rw [← gU,h]; rfl
theorem qCi (h:x.cps.toList.drop p=c::l):x.cps[p]? = some c:=by
 have:(x.cps.toList.drop p)[0]? = some c:=by rw [h]; rfl
 rw [eB,iA,dI] at this
 exact this
theorem jD (hp:p<=x.length) (h:x.cps.toList.drop p=l):l.length+p=x.length:=by
 rw [← h,u0,h9]
 have:x.length=x.cps.size:=rfl
 simp_all
theorem qLk (hp:p<=x.length) (h:x.cps.toList.drop p=[]):p=x.length:=by
 have:=jD hp h
 rw [nV] at this; simp_all
theorem jO {i:Int} (u : -1000<=i) (h2:i<=1000):vR i=true:=by
 unfold vR
 rw [d8]
 exact ⟨h8 (by lia),h8 (by lia)⟩
theorem qCa {i n:Nat} (h:i < n):seqIndex? (i:Int) n=some i:=by
 have e:(if (i:Int) < 0 then (i:Int)+n else i)=i:=d0 (by simp)
 unfold seqIndex?
 rw [e]
 exact (c7 (by rw [d8]; exact ⟨h8 (by simp),h8 (by simp [h])⟩)).trans (g8 some (dP i))
theorem qDx (hs:x.length<=1000) (h:x.cps.toList.drop p=c::l):wF H (.str x) (.int (p:Nat))=.ok (.str ⟨#[c]⟩) :=
 qIk (jO (by simp) (by have:=vK h; exact m_a6 hs this)) (qCa (vK h)) (qCi h)
theorem zBp (a b:Nat):((min a b:Nat):Int)=min (a:Int) b:=by
 rcases pI a b with h | h
 ·rw [dT h,Int.min_eq_left (Int.ofNat_le.mpr h)]
 ·rw [eM h,Int.min_eq_right (Int.ofNat_le.mpr h)]
theorem uY (n i:Nat):clipAt n (i:Int)=min i n:=by
 unfold clipAt
 rw [d0 (Int.not_lt.mpr (bQ i)),← zBp,Int.max_eq_right (bQ _),dP]
theorem zBh {α:Type} (xs:List α) {p t:Nat} (hp:p<=xs.length):cut xs (some (p:Int)) (some ((p+t:Nat):Int))=(xs.drop p).take t:=by
 unfold cut
 show (xs.drop (clipAt xs.length (p:Int))).take (clipAt xs.length ((p+t:Nat):Int) - clipAt xs.length (p:Int))=_
 rw [uY,uY,dT hp]
 by_cases h:p+t<=xs.length
 ·rw [dT h,v3]
 ·rw [eM (by exact eW h),t7 (by rw [u0]; exact d7 _),t7 (by rw [u0]; exact n_b0 h)]
theorem zKy {t:Nat} (hp:p<=x.length):wX H (.str x) (.int (p:Nat)) (.int ((p+t:Nat):Int))=.ok (.str ⟨((x.cps.toList.drop p).take t).toArray⟩):=by
 show Ov.ok (.str ⟨(cut x.cps.toList (some ((p:Nat):Int)) (some ((p+t:Nat):Int))).toArray⟩)=_
 rw [zBh _ (by rw [h9]; exact hp)]
open StrLaws PySem.Builtin PySem.Builtin.Str in
theorem at_nl {i:Nat}:At x ⟨#[10]⟩ x.length i ↔ x.cps[i]? = some 10:=by
 unfold At
 rw [subAt_eq]
 constructor
 ·rintro ⟨D,h2⟩
  have u:(x.cps.toList.drop i).take 1=[10]:=eF h2
  cases hd:x.cps.toList.drop i with
  | nil=>rw [hd] at u; cases u
  | cons a l=>rw [hd] at u; cases u; exact qCi hd
 ·intro h
  have B:i < x.cps.size:=(Array.getElem?_eq_some_iff.mp h).1
  refine ⟨B,?_⟩
  have hd:x.cps.toList.drop i=10::x.cps.toList.drop (i+1):=by
   have h':x.cps.toList[i]? = some 10:=by rw [dI]; exact h
   obtain ⟨hi,e⟩:=List.getElem?_eq_some_iff.mp h'
   rw [gE hi,e]
  rw [hd]; rfl
theorem zAc (n i:Nat):fromIndex n (i:Int)=i:=by
 unfold fromIndex
 rw [d0 (Int.not_lt.mpr (bQ i)),Int.max_eq_right (bQ _),dP]
open StrLaws PySem.Builtin PySem.Builtin.Str in
theorem zId (hp:p<=x.length) (h:x.cps.toList.drop p=l) (u:10∈l):∃ q,pU x ⟨#[10]⟩ (p:Nat)=(q:Nat)/\q < x.length/\x.cps.toList.drop q=l.dropWhile (·≠10):=by
 have hx:x.length=x.cps.size:=rfl
 have T:∀ (l:Ln) (p:Nat),x.cps.toList.drop p=l->10∈l->∃ q,p<=q/\x.cps[q]? = some 10/\x.cps.toList.drop q=l.dropWhile (·≠10)/\∀ j,p<=j->j < q->x.cps[j]?≠some 10:=by
  intro l
  induction l with
  | nil=>intro p _ u; cases u
  | cons a l ih =>
   intro p h u
   by_cases ha:a=10
   ·subst ha
    refine ⟨p,d7 _,qCi h,?_,λ j B h2=>by lia⟩
    rw [h]; rfl
   ·obtain ⟨q,B,h2,h3,h4⟩:=ih (p+1) (kG h) (by
     rcases List.mem_cons.mp u with e | e
     ·exact f8 e.symm ha
     ·exact e)
    refine ⟨q,by exact n1 B,h2,?_,λ j X Y=>?_⟩
    ·rw [h3]
     rw [List.dropWhile_cons_of_pos (by simpa using ha)]
    ·by_cases hj:j=p
     ·subst hj; rw [qCi h]; exact λ e=>ha (j7 e)
     ·exact h4 j (by exact cC X (eO hj)) Y
 obtain ⟨q,B,h2,h3,h4⟩:=T l p h u
 have J:q < x.length:=(Array.getElem?_eq_some_iff.mp h2).1
 refine ⟨q,?_,J,h3⟩
 unfold pU
 rw [zAc,occ_eq]
 rcases occ_first x ⟨#[10]⟩ x.length 1 (d7 _) (m4 p (x.length+1 - p)) p (λ i hi=>(List.mem_range'_1.mp hi).1) with ⟨_,hn⟩ | ⟨pre,a,D,e,S,ha,hn⟩
 ·exact f8 (at_nl.mpr h2) (hn q (List.mem_range'_1.mpr ⟨B,by exact n_b1 J⟩))
 ·have V:=at_nl.mp ha
  have O:p<=a:=(List.mem_range'_1.mp (by rw [e]; exact w7 _ (.head _))).1
  have L:a=q:=by
   rcases Nat.lt_trichotomy a q with c | c | c
   ·exact f8 V (h4 a O c)
   ·exact c
   ·exfalso
    refine hn q ?_ (at_nl.mpr h2)
    have U:q∈pre++a::D:=by rw [← e]; exact List.mem_range'_1.mpr ⟨B,by lia⟩
    rcases List.mem_append.mp U with m | m
    ·exact m
    ·have hs:List.Pairwise (· < ·) (pre++a::D):=by rw [← e]; exact mX ..
     rcases List.mem_cons.mp m with m | m
     ·lia
     ·have:=(List.pairwise_append.mp hs).2.1
      have:=(List.pairwise_cons.mp this).1 q m
      lia
  subst L
  generalize (forIn (m4 p (x.length+1 - p)) ((#[]:Array Nat),p) (occBody x ⟨#[10]⟩ x.length 1)).run.fst=arr at S
  have h5:arr.toList[0]? = some a:=by rw [dI]; exact S
  cases hL:arr.toList with
  | nil=>rw [hL] at h5; cases h5
  | cons b t=>rw [hL] at h5; cases h5; rfl
end
end Mine.Lake
namespace Mine.Lake.L09
open PySem PySem.W PyProof.Rows Mine.Lake Mine.Lake.Rp
structure Bx (G:Prg) (cx:Sx):Prop where
 gl:cx.gl=G.gl
 bl:∀ i args H,cx.app (.top (.builtin i)) args H=bapp false i args H
 bd:∀ k x H,cx.app (.bnd k) [x] H=xD (.ref k) x H
 get:cx.get=qUa G
 fld:cx.fld=yN G
 setA:cx.setA=zLa G
 tr:cx.tr=trV G
theorem qEk {G:Prg} {rows:Rows} {fI:Addr}:∀ n,Bx G (tower G rows fI n)
 | 0=>⟨rfl,λ q q q=>rfl,λ q q q=>rfl,rfl,rfl,rfl,rfl⟩
 | 1=>⟨rfl,λ q q q=>rfl,λ q q q=>rfl,rfl,rfl,rfl,rfl⟩
 | _+2=>⟨rfl,λ q q q=>rfl,λ q q q=>rfl,rfl,rfl,rfl,rfl⟩
noncomputable def hput (H:Hp) (k:Nat) (o:O):Hp:={ H with obj:=λ j=>if j=k then some o else H.obj j }
noncomputable def natsV (l:Ln):List V:=l.map λ n=>.int (n:Nat)
theorem xW {H:Hp} {k:Nat} {o:O}:(hput H k o).obj k=some o:=c7 rfl
theorem qH {H:Hp} {k j:Nat} {o:O} (h:j≠k):(hput H k o).obj j=H.obj j:=d0 h
theorem qQj {H:Hp} {k:Nat} {a b:O}:hput (hput H k a) k b=hput H k b:=by
 unfold hput
 refine g8 (λ o=>Hp.mk o H.nxt) (funext λ j=>?_)
 show (if j=k then some b else if j=k then some a else H.obj j)=if j=k then some b else H.obj j
 split <;> rfl
structure B1 (x:Str) (k j:Nat) (H:Hp) (p:Nat) (m:Mk) (Z:St):Prop where
 self:Z.loc.lookup ("self" : Str)=some (.ref k)
 code:Z.loc.lookup ("code" : Str)=some (.str x)
 cont:Z.loc.lookup ("continuation" : Str)=some (.int (m.cont:Nat))
 lev:Z.loc.lookup ("level" : Str)=some (.int (m.level:Nat))
 lno:Z.loc.lookup ("lno" : Str)=some (.int (m.lno:Nat))
 good:Z.loc.lookup ("goodlines" : Str)=some (.ref j)
 push:Z.loc.lookup ("push_good" : Str)=some (.bnd j)
 i:Z.loc.lookup ("i" : Str)=some (.int (p:Nat))
 n:Z.loc.lookup ("n" : Str)=some (.int (x.length:Nat))
 hp:Z.toHp=hput H j (.list (natsV m.gl))
structure Qs (q w first:Nat) (l:List (Str×V)):Prop where
 quote:l.lookup ("quote" : Str)=some (.str ⟨(qG q w).toArray⟩)
 w:l.lookup ("w" : Str)=some (.int (w:Nat))
 first:l.lookup ("firstlno" : Str)=some (.int (first:Nat))
noncomputable def qNu:List Str:=["self", "code", "continuation", "level", "lno", "goodlines", "push_good", "i", "n"]
noncomputable def qYr:List Str:=["ch", "quote", "firstlno", "w"]
noncomputable def zNe:List Str:=["quote", "firstlno", "w"]
theorem zJm:∀ y∈qYr,∀ z∈qNu,(z == y)=false:=by decide +kernel
theorem zJl:∀ y∈("ch" : Str)::qNu,∀ z∈zNe,(z == y)=false:=by decide +kernel
section
variable {x:Str} {k j p q w first:Nat} {H:Hp} {m:Mk} {Z:St}
theorem B1.oth (h:B1 x k j H p m Z) {y:Str} (hy:y∈qYr) {v:V}:B1 x k j H p m (Z.set y v):=by
 have a:=zJm y hy
 exact ⟨qA (a _ (by decide)) h.self,qA (a _ (by decide)) h.code,qA (a _ (by decide)) h.cont,qA (a _ (by decide)) h.lev,qA (a _ (by decide)) h.lno,qA (a _ (by decide)) h.good,qA (a _ (by decide)) h.push,qA (a _ (by decide)) h.i,qA (a _ (by decide)) h.n,h.hp⟩
theorem B1.seti (h:B1 x k j H p m Z) {i:Int} (hi:i=(q:Nat)):B1 x k j H q m (Z.set "i" (.int i)):=by
 subst hi
 exact ⟨zX2 h.self,zX2 h.code,zX2 h.cont,zX2 h.lev,zX2 h.lno,zX2 h.good,zX2 h.push,qC,zX2 h.n,h.hp⟩
theorem B1.setcont (h:B1 x k j H p m Z) {i:Int} (hi:i=(q:Nat)):B1 x k j H p { m with cont:=q } (Z.set "continuation" (.int i)):=by
 subst hi
 exact ⟨zX2 h.self,zX2 h.code,qC,zX2 h.lev,zX2 h.lno,zX2 h.good,zX2 h.push,zX2 h.i,zX2 h.n,h.hp⟩
theorem B1.setlev (h:B1 x k j H p m Z) {i:Int} (hi:i=(q:Nat)):B1 x k j H p { m with level:=q } (Z.set "level" (.int i)):=by
 subst hi
 exact ⟨zX2 h.self,zX2 h.code,zX2 h.cont,qC,zX2 h.lno,zX2 h.good,zX2 h.push,zX2 h.i,zX2 h.n,h.hp⟩
theorem B1.setlno (h:B1 x k j H p m Z) {i:Int} (hi:i=(q:Nat)):B1 x k j H p { m with lno:=q } (Z.set "lno" (.int i)):=by
 subst hi
 exact ⟨zX2 h.self,zX2 h.code,zX2 h.cont,zX2 h.lev,qC,zX2 h.good,zX2 h.push,zX2 h.i,zX2 h.n,h.hp⟩
theorem B1.setgl (h:B1 x k j H p m Z) {gl:Ln}:B1 x k j H p { m with gl:=gl } { Z with toHp:=hput H j (.list (natsV gl)) } :=
 ⟨h.self,h.code,h.cont,h.lev,h.lno,h.good,h.push,h.i,h.n,rfl⟩
theorem Qs.oth (h:Qs q w first Z.loc) {y:Str} (hy:y∈("ch" : Str)::qNu) {v:V}:Qs q w first (Z.set y v).loc:=by
 have a:=zJl y hy
 exact ⟨qA (a _ (by decide)) h.quote,qA (a _ (by decide)) h.w,qA (a _ (by decide)) h.first⟩
end
theorem qLq {c:Bool} {a:V} {H:Hp}:bapp c "len" [a] H=qIe a H:=by unfold bapp; rw [c7 rfl]; rfl
theorem qVf {c:Bool} {a b d:V} {H:Hp}:bapp c "str.find" [a,b,d] H=qLb a b d H:=by
 unfold bapp
 rw [zX1,zX1,zX1,c7 rfl]; rfl
section
variable {cx:Sx} {G:Prg} {Z:St} {Q:Fl->St->Prop} {x:Str} {k j p:Nat} {H:Hp} {m:Mk}
theorem zCq {cx:Cx} {c d:Nat} {z:Str} (u:z=⟨#[d]⟩) (h:Z.loc.lookup ("ch" : Str)=some (.str ⟨#[c]⟩)):ev cx (.cmp .Eq (.var "ch") (.str z)) Z=.ok (.bool (decide (c=d))) Z:=by
 rw [qCn (qB h) rfl,u]
 show Rs.ok (V.bool ([c] == [d])) Z=_
 congr 2
 by_cases e:c=d
 ·subst e; simp
 ·rw [r5 e]
  simpa using e
theorem qBa {c d:Nat} {z:Str} {a r:S} (B:z=⟨#[d]⟩) (h:Z.loc.lookup ("ch" : Str)=some (.str ⟨#[c]⟩)) (u:c=d->Gd (ex a cx Z) (qVl r cx Q)) (h2:c≠d->Gd (ex r cx Z) Q) :
  Gd (ex (.seq (.ite (.cmp .Eq (.var "ch") (.str z)) a .nil) r) cx Z) Q :=
 zW (zCq B h) (λ q=>u (m5 q)) (λ q=>h2 (v8 q))
theorem qQa (B:Bx G cx) (h:B1 x k j H p m Z) (J:m.gl.length<=2000) {r:S} (hk:∀ Z',B1 x k j H p { m with gl:=if m.level=0 then m.gl++[m.lno] else m.gl } Z'->Z'.loc=Z.loc->Gd (ex r cx Z') Q) :
  Gd (ex (.seq (.ite (.cmp .Eq (.var "level") (.int 0)) (.seq (.expr (.call (.var "push_good") (.cons (.var "lno") .nil))) .nil) .nil) r) cx Z) Q:=by
 refine zW (vT (qB h.lev) rfl) (λ e=>?_) (λ e=>?_)
 ·have u:m.level=0:=by simpa using e
  rw [c7 u] at hk
  refine xI (a0:={ Z with toHp:=hput H j (.list (natsV (m.gl++[m.lno]))) }) (v:=.none) ?_ (gd_nil (hk _ h.setgl rfl))
  have ha:cx.app (.bnd j) [.int (m.lno:Nat)] Z.toHp=okH .none (hput H j (.list (natsV (m.gl++[m.lno])))):=by
   rw [B.bd,h.hp]
   show ((asO ((hput H j (.list (natsV m.gl))).obj j)).map λ xs=>(j,xs)).elim Rs.bad _=_
   rw [xW]
   have D:(natsV m.gl).length+1<=g0:=by
    unfold natsV; rw [k0]
    have:g0=16777216:=by decide
    lia
   refine (c7 D).trans ?_
   show okH .none (hput (hput H j (.list (natsV m.gl))) j (.list (natsV m.gl++[.int (m.lno:Nat)])))=_
   rw [qQj]
   unfold natsV; rw [eH]; rfl
  exact xZ (qB h.push) (qJ (qB h.lno) rfl) ha
 ·have u:¬ m.level=0:=by simpa using e
  rw [d0 u] at hk
  exact hk Z h rfl
theorem qBz {t:Nat} {a b:Int} (hp:p<=x.length) (ha:a=(p:Nat)) (u:b=((p+t:Nat):Int)):wX H (.str x) (.int a) (.int b)=.ok (.str ⟨((x.cps.toList.drop p).take t).toArray⟩):=by
 subst ha u; exact zKy hp
end
inductive Nxt (x:Str) (k j:Nat) (H:Hp) (R:Mk) (n:Nat) (Z:St):Prop where
 | mk (n' p:Nat) (m:Mk) (h1:n'<=n) (h2:p<=x.length) (h3:m.gl.length<=p+1) (h4:B1 x k j H p m Z) (h5:scan n' .out (x.cps.toList.drop p) m=some R)
inductive Inn (x:Str) (k j:Nat) (H:Hp) (R:Mk) (q w first:Nat) (n:Nat) (Z:St):Prop where
 | mk (n' p:Nat) (m:Mk) (h1:n'<=n) (h2:p<=x.length) (h3:m.gl.length<=p+1) (h4:B1 x k j H p m Z) (h5:Qs q w first Z.loc) (h6:scan n' (.txt q w first) (x.cps.toList.drop p) m=some R)
section
variable {cx:Sx} {G:Prg} {Z:St} {x:Str} {k j p n c q w first:Nat} {H:Hp} {m R:Mk} {l:Ln}
theorem nlS:("\n" : Str)=⟨#[10]⟩:=by decide +kernel
theorem bsS:("\\" : Str)=⟨#[92]⟩:=by decide +kernel
theorem xS:("x" : Str)=⟨#[120]⟩:=by decide +kernel
theorem qFi {l:Ln} {w q:Nat} (h:(c::l).take (w+1)=qG q w):w<=l.length:=by
 have:=g8 List.length h
 unfold qG at this
 rw [dS,dM,m7] at this
 exact m_a7 this
theorem zOs {cx:Cx} {d:Nat} (hs:x.length<=1000) (h:B1 x k j H p m Z) (hd:x.cps.toList.drop p=d::l):ev cx (.cmp .Eq (.idx (.var "code") (.var "i")) (.str "\n")) Z=.ok (.bool (decide (d=10))) Z:=by
 rw [qCn (xF (qB h.code) (qB h.i) (qDx hs hd)) rfl,nlS]
 show Rs.ok (V.bool ([d] == [10])) Z=_
 congr 2
 by_cases e:d=10
 ·subst e; rfl
 ·rw [r5 e]; simpa using e
theorem qHc {cx:Cx} (h:B1 x k j H p m Z):ev cx (.cmp .Lt (.var "i") (.var "n")) Z=.ok (.bool (decide (p < x.length))) Z:=by
 rw [qJn (qB h.i) (qB h.n)]
 congr 2
 by_cases e:p < x.length
 ·rw [h8 e,h8 (by simp [e])]
 ·rw [r5 e,r5 (by simp [e])]
theorem zNq (B:Bx G cx) (hs:x.length<=1000) (h:B1 x k j H p m Z) (D:Qs q w first Z.loc) (O:m.gl.length<=p+1) (hd:x.cps.toList.drop p=c::l) (u:scan (n+1) (.txt q w first) (c::l) m=some R) :
  Gd (ex inB cx Z) λ f Z'=>match f with | .next=>Inn x k j H R q w first n Z' | .cont=>Inn x k j H R q w first n Z' | .brk=>Nxt x k j H R n Z' | .ret _=>False:=by
 have hp:=vK hd
 have J:=kG hd
 rw [uA] at u
 unfold inB
 refine qE (xF (qB h.code) (qB h.i) (qDx hs hd)) ?_
 have L:=@qC Z "ch" (.str ⟨#[c]⟩)
 replace h:=h.oth (y:="ch") (v:=.str ⟨#[c]⟩) (by decide)
 replace D:=D.oth (y:="ch") (v:=.str ⟨#[c]⟩) (by decide)
 generalize Z.set "ch" (.str ⟨#[c]⟩)=Z at h L D ⊢
 refine qE (zP (qB h.i) rfl) ?_
 replace L:=@qA Z "i" "ch" (.int ((p:Int)+1)) _ (by decide) L
 replace h:=h.seti (i:=(p:Int)+1) (q:=p+1) rfl
 replace D:=D.oth (y:="i") (v:=.int ((p:Int)+1)) (by decide)
 generalize Z.set "i" (.int ((p:Int)+1))=Z at h L D ⊢
 refine qBa xS L (λ e=>?_) λ e1=>?_
 ·replace u:=(c7 e).symm.trans u
  exact xB ⟨n,p+1,m,d7 _,hp,by exact j6 O,h,D,by rw [J]; exact u⟩
 replace u:=(d0 e1).symm.trans u
 refine zW (qCn (jR (qB h.code) (yS (qB h.i) rfl) (zP (qB h.i) (qB D.w)) (qBz (p:=p) (t:=w+1) (n1 hp) (by simp) (by simp +arith))) (qB D.quote)) (λ e=>?_) λ e2=>?_
 ·have X:(c::l).take (w+1)=qG q w:=by rw [← hd]; exact eF e
  replace u:=(c7 X).symm.trans u
  have hw:=qFi X
  have hL:=jD (n1 hp) hd
  rw [m7] at hL
  refine qE (zP (qB h.i) (qB D.w)) (qD (qZz ?_))
  refine ⟨n,p+1+w,m,d7 _,by exact m_a8 hw hL,by lia,h.seti (by rfl),?_⟩
  rw [← gU,J]; exact u
 have Y:¬ (c::l).take (w+1)=qG q w:=by
  rw [← hd]; intro q'; rw [show (⟨(List.take (w+1) (List.drop p x.cps.toList)).toArray⟩:Str).cps.toList=List.take (w+1) (List.drop p x.cps.toList) from rfl,q',show (⟨(qG q w).toArray⟩:Str).cps.toList=qG q w from rfl] at e2
  simp at e2
 replace u:=(d0 Y).symm.trans u
 refine qBa nlS L (λ e=>?_) λ e3=>?_
 ·replace u:=(c7 e).symm.trans u
  refine qE (zP (qB h.lno) rfl) ?_
  replace h:=h.setlno (i:=(m.lno:Int)+1) (q:=m.lno+1) rfl
  replace D:=D.oth (y:="lno") (v:=.int ((m.lno:Int)+1)) (by decide)
  generalize Z.set "lno" (.int ((m.lno:Int)+1))=Z at h D ⊢
  refine zW (vT (qB D.w) rfl) (λ e=>?_) λ e=>?_
  ·have U:w=0:=by simpa using e
   replace u:=(c7 U).symm.trans u
   refine qQa B h (by show m.gl.length<=2000; exact m_a9 hs O hp) λ Z' h' z=>qD (qZz ⟨n,p+1,_,d7 _,hp,?_,h',by rw [J]; exact u⟩)
   show (if m.level=0 then m.gl++[m.lno+1] else m.gl).length<=_
   split
   ·rw [g7,k8]; exact m2 O
   ·exact j6 O
  ·have U:¬ w=0:=by simpa using e
   replace u:=(d0 U).symm.trans u
   exact xB ⟨n,p+1,_,d7 _,hp,by show m.gl.length<=_; exact j6 O,h,D,by rw [J]; exact u⟩
 replace u:=(d0 e3).symm.trans u
 refine qBa bsS L (λ e=>?_) λ e4=>?_
 ·replace u:=(c7 e).symm.trans u
  cases V:l with
  | nil=>rw [V] at u; cases u
  | cons d l' =>
   rw [V] at u J
   have S:=vK J
   have T:=kG J
   refine xA (by rw [qHc h,h8 S]) ?_
   refine zW (zOs hs h J) (λ e=>?_) λ e=>?_
   ·dsimp only at u
    rw [c7 (m5 e)] at u
    refine qE (zP (qB h.lno) rfl) (gd_nil ?_)
    replace h:=h.setlno (i:=(m.lno:Int)+1) (q:=m.lno+1) rfl
    replace D:=D.oth (y:="lno") (v:=.int ((m.lno:Int)+1)) (by decide)
    generalize Z.set "lno" (.int ((m.lno:Int)+1))=Z at h D ⊢
    refine qE (zP (qB h.i) rfl) (xB ?_)
    exact ⟨n,p+1+1,_,d7 _,S,by show m.gl.length<=_; exact d5 O (n4 _ 2),h.seti rfl,D.oth (by decide),by rw [T]; exact u⟩
   ·dsimp only at u
    rw [d0 (v8 e)] at u
    refine qE (zP (qB h.i) rfl) (xB ?_)
    exact ⟨n,p+1+1,m,d7 _,S,by exact d5 O (n4 _ 2),h.seti rfl,D.oth (by decide),by rw [T]; exact u⟩
 replace u:=(d0 e4).symm.trans u
 exact gd_nil ⟨n,p+1,m,d7 _,hp,by exact j6 O,h,D,by rw [J]; exact u⟩
end
end Mine.Lake.L09
namespace Mine.Lake.L09
open PySem PySem.W PyProof.Rows Mine.Lake Mine.Lake.Rp MineTop
section
variable {cx:Sx} {G:Prg} {Z:St} {x:Str} {k j p n c q w first:Nat} {H:Hp} {m R:Mk} {l:Ln} {pp:bA}
theorem zPv (B:Bx (G09 pp) cx):cx.gl "C_BACKSLASH" = some (.int 1):=by rw [B.gl]; rfl
theorem zNu (B:Bx (G09 pp) cx):cx.gl "C_STRING_FIRST_LINE" = some (.int 2):=by rw [B.gl]; rfl
theorem zNt (B:Bx (G09 pp) cx):cx.gl "C_STRING_NEXT_LINES" = some (.int 3):=by rw [B.gl]; rfl
theorem zRg (B:Bx (G09 pp) cx):cx.gl "C_BRACKET" = some (.int 4):=by rw [B.gl]; rfl
theorem zNv (B:Bx (G09 pp) cx):cx.gl "C_NONE" = some (.int 0):=by rw [B.gl]; rfl
theorem qZr (B:Bx (G09 pp) cx):cx.gl "len" = some (.top (.builtin "len")):=by rw [B.gl]; rfl
theorem Inn.mono {u:Nat} (h:Inn x k j H R q w first n Z) (hn:n<=u):Inn x k j H R q w first u Z:=by
 obtain ⟨a,b,c,B,h2,h3,h4,h5,D⟩:=h; exact ⟨a,b,c,d5 B hn,h2,h3,h4,h5,D⟩
theorem Nxt.mono {u:Nat} (h:Nxt x k j H R n Z) (hn:n<=u):Nxt x k j H R u Z:=by
 obtain ⟨a,b,c,B,h2,h3,h4,h5⟩:=h; exact ⟨a,b,c,d5 B hn,h2,h3,h4,h5⟩
theorem zHu (B:Bx (G09 pp) cx) (h:B1 x k j H p m Z) (D:Qs q w first Z.loc):Gd (ex inE cx Z) λ f Z'=>f=.next/\B1 x k j H p { m with cont:=if m.lno=first+1 then 2 else 3 } Z':=by
 unfold inE
 refine qZx (vT (yS (qB h.lno) rfl) (qB D.first)) (λ e=>?_) (λ e=>?_)
 ·have u:m.lno=first+1:=by have:=eF e; lia
  rw [c7 u]
  exact qE (qZ (zNu B)) (gd_nil (gd_nil ⟨rfl,h.setcont rfl⟩))
 ·have u:¬ m.lno=first+1:=by
   intro J; rw [J] at e
   have:((first+1:Nat):Int) - 1=first:=by simp
   rw [this] at e; simp at e
  rw [d0 u]
  exact qE (qZ (zNt B)) (gd_nil (gd_nil ⟨rfl,h.setcont rfl⟩))
theorem zHt (B:Bx (G09 pp) cx) (hs:x.length<=1000) (hn:n<=1000) (h:Inn x k j H R q w first n Z):Gd (ex inL cx Z) λ f Z'=>f=.next/\Nxt x k j H R n Z':=by
 refine uR (λ fuel Z=>Inn x k j H R q w first (min fuel n) Z) (by rw [eM hn]; exact h) ?_
 rintro fuel Z ⟨u,p,m,hn',hp,hz,h,hq,he⟩
 cases u with
 | zero=>exact zN1 he
 | succ u =>
 have J:u+1<=fuel:=d5 hn' (gW ..)
 have D:u+1<=n:=d5 hn' (iB ..)
 refine ⟨fuel - 1,by exact n_b2 J,_,Z,_,qHc h,rfl,λ e=>?_,λ e=>?_⟩
 ·cases hd:x.cps.toList.drop p with
  | nil =>
   have:=qLk hp hd
   have:=m5 e
   lia
  | cons c l =>
   rw [hd] at he
   refine (zNq B hs h hq hz hd he).mono λ f Z' r=>?_
   have L:u<=min (fuel - 1) n:=Nat.le_min.mpr ⟨by exact fO J,by exact n1 D⟩
   cases f with
   | next=>exact Inn.mono r L
   | cont=>exact Inn.mono r L
   | brk=>exact ⟨rfl,Nxt.mono r (by exact n1 D)⟩
   | ret v=>exact r.elim
 ·have O:p=x.length:=by have:=v8 e; lia
  have hd:x.cps.toList.drop p=[]:=eL (by rw [h9,O]; exact d7 _)
  rw [hd] at he
  refine (zHu B h hq).mono ?_
  rintro f Z' ⟨rfl,h'⟩
  exact ⟨rfl,u,p,{ m with cont:=if m.lno=first+1 then 2 else 3 },by exact n1 D,hp,hz,h',by rw [hd]; exact he⟩
theorem zNg {c:Nat} {H:Hp}:qJc H .Mult (.str ⟨#[c]⟩) (.int 3)=.ok (.str ⟨([c,c,c]:Ln).toArray⟩):=by
 show (if (3:Int)=3/\(⟨#[c]⟩:Str).length=1 then Ov.ok (V.str (⟨#[c]⟩++⟨#[c]⟩++⟨#[c]⟩)) else .bad)=_
 rw [c7 ⟨rfl,rfl⟩]
 rfl
theorem qLy {y:Str} (B:Bx (G09 pp) cx) {z:Str} (h:Z.loc.lookup z=some (.str y)):ev cx.toCx (.call (.glob "len") (.cons (.var z) .nil)) Z=.ok (.int (y.length:Nat)) Z :=
 xZ (Z':=⟨Z.toHp,[],[],none⟩) (qZ (qZr B)) (qJ (qB h) rfl) (by rw [B.bl,qLq]; rfl)
theorem qKf (B:Bx (G09 pp) cx) (hs:x.length<=1000) (hn:n<=1000) (h:B1 x k j H p m Z) (hp:p+w<=x.length) (L:m.gl.length<=p+1) (u:Z.loc.lookup ("quote" : Str)=some (.str ⟨(qG q w).toArray⟩)) (O:scan n (.txt q w m.lno) (x.cps.toList.drop (p+w)) m=some R) :
  Gd (ex zEp cx Z) λ f Z'=>f=.cont/\Nxt x k j H R n Z':=by
 unfold zEp
 refine qE (qB h.lno) ?_
 have f1:=@qC Z "firstlno" (.int (m.lno:Nat))
 replace u:=@qA Z "firstlno" "quote" (.int (m.lno:Nat)) _ (by decide) u
 replace h:=h.oth (y:="firstlno") (v:=.int (m.lno:Nat)) (by decide)
 generalize Z.set "firstlno" (.int (m.lno:Nat))=Z at h f1 u ⊢
 have hw:((⟨(qG q w).toArray⟩:Str).length:Int) - 1=(w:Nat):=by
  have:(⟨(qG q w).toArray⟩:Str).length=w+1:=by
   show (qG q w).toArray.size=_
   rw [n7]; unfold qG; rw [dM]
  exact n_b3 this
 refine qE (yS (qLy B u) rfl) ?_
 rw [hw]
 have D:=@qC Z "w" (.int (w:Nat))
 replace f1:=@qA Z "w" "firstlno" (.int (w:Nat)) _ (by decide) f1
 replace u:=@qA Z "w" "quote" (.int (w:Nat)) _ (by decide) u
 replace h:=h.oth (y:="w") (v:=.int (w:Nat)) (by decide)
 generalize Z.set "w" (.int (w:Nat))=Z at h f1 D u ⊢
 have J:Qs q w m.lno Z.loc:=⟨u,D,f1⟩
 refine qE (zP (qB h.i) (qB D)) ?_
 refine qY ((zHt B hs hn ⟨n,p+w,m,d7 _,hp,by exact m_b0 L,h.seti rfl,J.oth (by decide),O⟩).mono ?_)
 rintro f Z' ⟨rfl,h'⟩
 exact xB ⟨rfl,h'⟩
theorem zEo (B:Bx (G09 pp) cx) (hs:x.length<=1000) (hn:n<=1000) (h:B1 x k j H (p+1) m Z) (O:m.gl.length<=p+1) (S:Z.loc.lookup ("ch" : Str)=some (.str ⟨#[c]⟩)) (hd:x.cps.toList.drop p=c::l)
  (D:(if (c::l).take 3=[c,c,c] then scan n (.txt c 2 m.lno) (l.drop 2) m else scan n (.txt c 0 m.lno) l m)=some R) :
  Gd (ex zPd cx Z) λ f Z'=>f=.cont/\Nxt x k j H R n Z':=by
 have hp:=vK hd
 have L:=kG hd
 have hL:=jD (n1 hp) hd
 rw [m7] at hL
 show Gd (ex (.seq (.asg "quote" (.var "ch")) (.seq (.ite (.cmp .Eq (.slc (.var "code") (.bin .Sub (.var "i") (.int 1)) (.bin .Add (.var "i") (.int 2))) (.bin .Mult (.var "quote") (.int 3))) (.seq (.asg "quote" (.bin .Mult (.var "quote") (.int 3))) .nil) .nil) zEp)) cx Z) _
 refine qE (qB S) ?_
 have u:=@qC Z "quote" (.str ⟨#[c]⟩)
 replace h:=h.oth (y:="quote") (v:=.str ⟨#[c]⟩) (by decide)
 generalize Z.set "quote" (.str ⟨#[c]⟩)=Z at h u ⊢
 refine zW (qCn (jR (qB h.code) (yS (qB h.i) rfl) (zP (qB h.i) rfl) (qBz (p:=p) (t:=3) (n1 hp) (by simp) (by rfl))) (yU (qB u) rfl zNg)) (λ e=>?_) λ e=>?_
 ·have J:(c::l).take 3=[c,c,c]:=by rw [← hd]; exact eF e
  rw [c7 J] at D
  have h3:=g8 List.length J
  rw [dS,m7] at h3
  have U:min 3 (l.length+1)=3:=h3
  refine qE (yU (qB u) rfl zNg) (gd_nil ?_)
  refine (qKf (q:=c) (w:=2) B hs hn (h.oth (by decide)) (by lia) (by exact j6 O) qC ?_)
  rw [← gU,L]; exact D
 ·have J:¬ (c::l).take 3=[c,c,c]:=by
   rw [← hd]; intro T
   have e2:((List.drop p x.cps.toList).take 3 == [c,c,c])=false:=e
   rw [T] at e2; simp at e2
  rw [d0 J] at D
  exact qKf (q:=c) (w:=0) B hs hn h (by exact hp) (by exact j6 O) u (by rw [iA,L]; exact D)
theorem lpS:("(" : Str)=⟨#[40]⟩:=by decide +kernel
theorem rpS:(")" : Str)=⟨#[41]⟩:=by decide +kernel
theorem dqS:("\"" : Str)=⟨#[34]⟩:=by decide +kernel
theorem sqS:("'" : Str)=⟨#[39]⟩:=by decide +kernel
theorem haS:("#" : Str)=⟨#[35]⟩:=by decide +kernel
def Out (x:Str) (k j:Nat) (H:Hp) (R:Mk) (n:Nat) (f:Fl) (Z:St):Prop:=(f=.next\/f=.cont)/\Nxt x k j H R n Z
theorem qZw {o:Str} (B:Bx (G09 pp) cx) {H:Hp}:cx.get (.str o) "find" H=some (.top (.builtin "str.find"),[.str o]):=by
 rw [B.get]
 have e:qUa (G09 pp) (.str o) "find" H=(qW "find").map λ i=>(V.top (.builtin i),[V.str o]):=rfl
 rw [e]
 have:qW "find" = some "str.find" := by
  unfold qW
  rw [c7 rfl]
 rw [this]; rfl
theorem qXv (B:Bx (G09 pp) cx) (hs:x.length<=1000) (h:B1 x k j H (p+1) m Z) (V:m.gl.length<=p+1) (S:Z.loc.lookup ("ch" : Str)=some (.str ⟨#[c]⟩))
  (u:(if c=35 then (if 10∈l then scan n .out (l.dropWhile (·≠10)) m else none)
  else if c=92 then (match l with
   | []=>none
   | d::l=>scan n .out l (if d=10 then { m with lno:=m.lno+1,cont:=if l=[] then 1 else m.cont } else m))
  else none)=some R) (hd:x.cps.toList.drop p=c::l) :
  Gd (ex zLp cx Z) (Out x k j H R n):=by
 have hp:=vK hd
 have D:=kG hd
 unfold zLp
 refine qBa haS S (λ e=>?_) λ e1=>?_
 ·replace u:=(c7 e).symm.trans u
  by_cases U:10∈l
  ·replace u:=(c7 U).symm.trans u
   obtain ⟨r,e1,e2,e3⟩:=zId hp D U
   have hr:p+1<=r:=by
    rcases nB r (p+1) with c' | c'
    ·exfalso
     have h1:=jD (n1 e2) e3
     have h2:=jD hp D
     have h3:(l.dropWhile (·≠10)).length<=l.length:=(nY _).length_le
     exact m_b1 c' h1 h2 h3
    ·exact c'
   refine qE (xM (Z':=⟨Z.toHp,[],[],none⟩) (xs:=[.str "\n", .int ((p+1:Nat):Int)]) (v:=.int (r:Nat)) (qB h.code) (qZw B) (qJ rfl (qJ (qB h.i) rfl)) ?_) ?_
   ·rw [B.bl]
    show bapp _ "str.find" [.str x,.str "\n", .int ((p+1:Nat):Int)] _=_
    rw [qVf,nlS]
    show okH (.int (pU x ⟨#[10]⟩ ((p+1:Nat):Int))) Z.toHp=_
    rw [e1]; rfl
   have h':B1 x k j H r m (Z.set "i" (.int (r:Nat))):=h.seti rfl
   refine xA (by rw [zJw (qB h'.i) rfl,h8 (by exact Int.NonNeg.mk (_+0))]) (xB ?_)
   exact ⟨.inr rfl,n,r,m,d7 _,n1 e2,by lia,h',by rw [e3]; exact u⟩
  ·rw [d0 U] at u; cases u
 replace u:=(d0 e1).symm.trans u
 by_cases e2:c=92
 ·replace u:=(c7 e2).symm.trans u
  cases X:l with
  | nil=>rw [X] at u; cases u
  | cons d l' =>
   rw [X] at u D
   dsimp only at u
   have J:=vK D
   have O:=kG D
   refine xA (by rw [zCq bsS S,h8 e2]) (xA (by rw [qHc h,h8 J]) ?_)
   refine zW (zOs hs h D) (λ e=>?_) λ e=>?_
   ·rw [c7 (m5 e)] at u
    refine qE (zP (qB h.lno) rfl) ?_
    replace h:=h.setlno (i:=(m.lno:Int)+1) (q:=m.lno+1) rfl
    generalize Z.set "lno" (.int ((m.lno:Int)+1))=Z at h ⊢
    have L:l'=[] ↔ p+1+1=x.length:=by
     have:=jD J O
     constructor
     ·rintro rfl; rw [nV] at this; simp_all
     ·intro Y; exact dU (by simp_all)
    refine zW (vT (zP (qB h.i) rfl) (qB h.n)) (λ e=>?_) λ e=>?_
    ·have T:l'=[]:=L.mpr (by have:=eF e; lia)
     rw [c7 T] at u
     refine qE (qZ (zPv B)) (gd_nil (gd_nil ?_))
     replace h:=h.setcont (i:=1) (q:=1) rfl
     generalize Z.set "continuation" (.int 1)=Z at h ⊢
     refine qE (zP (qB h.i) rfl) (gd_nil ?_)
     exact ⟨.inl rfl,n,p+1+1,_,d7 _,J,by show m.gl.length<=_; exact d5 V (n4 _ 2),h.seti rfl,by rw [O]; exact u⟩
    ·have T:¬ l'=[]:=λ Y=>by
      have:=L.mp Y
      rw [show ((p+1:Nat):Int)+1=(x.length:Nat) by lia] at e
      simp at e
     rw [d0 T] at u
     refine gd_nil ?_
     refine qE (zP (qB h.i) rfl) (gd_nil ?_)
     exact ⟨.inl rfl,n,p+1+1,_,d7 _,J,by show m.gl.length<=_; exact d5 V (n4 _ 2),h.seti rfl,by rw [O]; exact u⟩
   ·rw [d0 (v8 e)] at u
    refine qE (zP (qB h.i) rfl) (gd_nil ?_)
    exact ⟨.inl rfl,n,p+1+1,m,d7 _,J,by exact d5 V (n4 _ 2),h.seti rfl,by rw [O]; exact u⟩
 ·rw [d0 e2] at u; cases u
theorem zEt (B:Bx (G09 pp) cx) (hs:x.length<=1000) (hn:n<=1000) (h:B1 x k j H p m Z) (J:m.gl.length<=p+1) (hd:x.cps.toList.drop p=c::l) (u:scan (n+1) .out (c::l) m=some R) :
  Gd (ex zLr cx Z) (Out x k j H R n):=by
 have hp:=vK hd
 have L:=kG hd
 rw [uB] at u
 unfold zLr
 refine qE (xF (qB h.code) (qB h.i) (qDx hs hd)) ?_
 have D:=@qC Z "ch" (.str ⟨#[c]⟩)
 replace h:=h.oth (y:="ch") (v:=.str ⟨#[c]⟩) (by decide)
 generalize Z.set "ch" (.str ⟨#[c]⟩)=Z at h D ⊢
 refine qE (zP (qB h.i) rfl) ?_
 replace D:=@qA Z "i" "ch" (.int ((p:Int)+1)) _ (by decide) D
 replace h:=h.seti (i:=(p:Int)+1) (q:=p+1) rfl
 generalize Z.set "i" (.int ((p:Int)+1))=Z at h D ⊢
 refine qBa xS D (λ e=>?_) λ e1=>?_
 ·replace u:=(c7 e).symm.trans u
  exact xB ⟨.inr rfl,n,p+1,m,d7 _,hp,by exact j6 J,h,by rw [L]; exact u⟩
 replace u:=(d0 e1).symm.trans u
 refine qBa nlS D (λ e=>?_) λ e2=>?_
 ·replace u:=(c7 e).symm.trans u
  refine qE (zP (qB h.lno) rfl) ?_
  replace h:=h.setlno (i:=(m.lno:Int)+1) (q:=m.lno+1) rfl
  refine qQa B h (by show m.gl.length<=2000; exact m_a9 hs J hp) λ Z' h' z=>xB ⟨.inr rfl,n,p+1,_,d7 _,hp,?_,h',by rw [L]; exact u⟩
  show (if m.level=0 then m.gl++[m.lno+1] else m.gl).length<=_
  split
  ·rw [g7,k8]; exact m2 J
  ·exact j6 J
 replace u:=(d0 e2).symm.trans u
 refine qBa lpS D (λ e=>?_) λ e3=>?_
 ·replace u:=(c7 e).symm.trans u
  exact qE (zP (qB h.lev) rfl) (xB ⟨.inr rfl,n,p+1,_,d7 _,hp,by show m.gl.length<=_; exact j6 J,h.setlev (q:=m.level+1) rfl,by rw [L]; exact u⟩)
 replace u:=(d0 e3).symm.trans u
 refine qBa rpS D (λ e=>?_) λ e4=>?_
 ·replace u:=(c7 e).symm.trans u
  refine qY (qT (qB h.lev) (t:=decide (m.level≠0)) ?_ (λ e=>?_) λ e=>?_)
  ·show some (((m.level:Nat):Int) != 0)=_
   congr 1
   by_cases e0:m.level=0
   ·rw [e0]; rfl
   ·rw [h8 e0]; simpa using e0
  ·have e0:m.level≠0:=m5 e
   refine qE (yS (qB h.lev) rfl) (gd_nil ?_)
   exact xB ⟨.inr rfl,n,p+1,_,d7 _,hp,by show m.gl.length<=_; exact j6 J,h.setlev (q:=m.level - 1) (by lia),by rw [L]; exact u⟩
  ·have e0:m.level=0:=by simpa using v8 e
   have O:({ m with level:=m.level - 1 }:Mk)=m:=by cases m; simp only at e0; subst e0; rfl
   rw [O] at u
   exact gd_nil (xB ⟨.inr rfl,n,p+1,m,d7 _,hp,by exact j6 J,h,by rw [L]; exact u⟩)
 replace u:=(d0 e4).symm.trans u
 refine zW (qVu (zCq dqS D) (λ z=>zCq sqS D)) (λ e=>?_) λ e=>?_
 ·have e0:c=34\/c=39:=by simpa using e
  replace u:=(c7 e0).symm.trans u
  refine (zEo B hs hn h J D hd u).mono ?_
  rintro f Z' ⟨rfl,h'⟩
  exact ⟨.inr rfl,h'⟩
 ·have e0:¬ (c=34\/c=39):=by simpa using e
  replace u:=(d0 e0).symm.trans u
  exact qXv B hs h J D u hd
theorem qXz (B:Bx (G09 pp) cx) (hs:x.length<=1000) (hn:n<=1000) (h:Nxt x k j H R n Z):Gd (ex zPk cx Z) λ f Z'=>f=.next/\∃ p,B1 x k j H p R Z'/\R.gl.length<=1001:=by
 refine uR (λ fuel Z=>Nxt x k j H R (min fuel n) Z) (by rw [eM hn]; exact h) ?_
 rintro fuel Z ⟨u,p,m,hn',hp,hz,h,he⟩
 cases u with
 | zero=>exact zN1 he
 | succ u =>
 have J:u+1<=fuel:=d5 hn' (gW ..)
 have D:u+1<=n:=d5 hn' (iB ..)
 refine ⟨fuel - 1,by exact n_b2 J,_,Z,_,qHc h,rfl,λ e=>?_,λ e=>?_⟩
 ·cases hd:x.cps.toList.drop p with
  | nil =>
   have:=qLk hp hd
   have:=m5 e
   lia
  | cons c l =>
   rw [hd] at he
   refine (zEt B hs (by lia) h hz hd he).mono λ f Z' r=>?_
   have L:u<=min (fuel - 1) n:=Nat.le_min.mpr ⟨by exact fO J,by exact n1 D⟩
   obtain ⟨rfl | rfl,r⟩:=r
   ·exact Nxt.mono r L
   ·exact Nxt.mono r L
 ·have O:p=x.length:=by have:=v8 e; lia
  have hd:x.cps.toList.drop p=[]:=eL (by rw [h9,O]; exact d7 _)
  rw [hd] at he
  cases he
  exact gd_nil ⟨rfl,p,h,by exact m_b2 hs hp hz⟩
end
noncomputable abbrev xE:=List (Str×V)
structure PO (H:Hp) (k d:Nat) (fs:xE):Prop where
 inst:H.obj k=some (.inst 231 d)
 dict:H.obj d=some (.dict fs)
 ne:k≠d
theorem PO.put {H:Hp} {k d:Nat} {fs fs':xE} (h:PO H k d fs):PO (hput H d (.dict fs')) k d fs':=⟨(qH h.ne).trans h.inst,xW,h.ne⟩
theorem PO.oth {H:Hp} {k d j:Nat} {fs:xE} (h:PO H k d fs) (u:k≠j) (h2:d≠j) {o:O}:PO (hput H j o) k d fs:=⟨(qH u).trans h.inst,(qH h2).trans h.dict,h.ne⟩
section
variable {cx:Sx} {pp:bA} {H:Hp} {k d j:Nat} {fs:xE}
theorem PO.at (h:PO H k d fs):kZ (G09 pp) (.ref k) H=some (k,d,fs):=by
 show (H.obj k).bind _=_
 rw [h.inst]
 show (H.obj d).bind _=_
 rw [h.dict]
 show (if (231:Addr)=231 then some (k,d,fs) else none)=_
 exact c7 rfl
theorem qAl {xs:List V} (h:H.obj j=some (.list xs)):kZ (G09 pp) (.ref j) H=none:=by
 show (H.obj j).bind _=_
 rw [h]
 rfl
theorem PO.fld (B:Bx (G09 pp) cx) (h:PO H k d fs) {f:Str} {v:V} (u:flds09.contains f=true) (hv:fs.lookup f=some v) (D:qCg v=true):cx.fld (.ref k) f H=.ok v:=by
 rw [B.fld]
 unfold yN
 rw [h.at]
 refine (c7 u).trans ?_
 rw [hv]
 exact c7 D
theorem PO.setA (B:Bx (G09 pp) cx) (h:PO H k d fs) {f:Str} {v:V} (u:flds09.contains f=true) (D:fs.length<=100):cx.setA (.ref k) f v H=some (hput H d (.dict (setF f v fs))):=by
 rw [B.setA]
 unfold zLa
 rw [h.at]
 exact c7 ⟨u,D⟩
theorem qOj (B:Bx (G09 pp) cx) {xs:List V} (h:H.obj j=some (.list xs)):cx.fld (.ref j) "append" H=.ok (.bnd j):=by
 rw [B.fld]
 unfold yN
 rw [qAl h]
 show (if ("append" : Str) = "append" then (qFe H (.ref j)).elim Ov.bad λ q=>Ov.ok (.bnd q.1) else Ov.bad)=_
 refine (c7 rfl).trans ?_
 show ((asO (H.obj j)).map λ xs=>(j,xs)).elim Ov.bad _=_
 rw [h]
 rfl
end
noncomputable def canon:List Str:=["indentwidth", "tabwidth", "code", "study_level", "goodlines", "continuation", "stmt_start", "stmt_end", "lastch", "lastopenbracketpos", "stmt_bracketing"]
theorem qGs:∀ n,n<=11->∀ i,i < 11->(canon.getD i "" ∈ canon.take n ↔ i < n):=by decide +kernel
theorem qOu:∀ n,n < 11->canon.take n++[canon.getD n ""]=canon.take (n+1):=by decide +kernel
def Kx (fs:xE) (m:Nat):Prop:=∃ n,m<=n/\n<=11/\fs.map (·.1)=canon.take n
theorem qGh {f:Str} {v:V}:∀ {fs:xE},(setF f v fs).map (·.1)=if f∈fs.map (·.1) then fs.map (·.1) else fs.map (·.1)++[f]
 | []=>rfl
 | (y,u)::r=>by
  rw [qHk]
  by_cases h:(f == y)=true
  ·have e:f=y:=eF h
   rw [c7 h,c7 (by rw [e]; exact .head _)]; rfl
  ·have D:f≠y:=λ q=>h (by rw [q]; simp)
   rw [d0 h]
   show y::(setF f v r).map (·.1)=_
   rw [qGh]
   by_cases B:f∈r.map (·.1)
   ·rw [c7 B,c7 (.tail _ B)]; rfl
   ·rw [d0 B,d0 (λ q=>by
     rcases List.mem_cons.mp q with q | q
     ·exact D q
     ·exact B q)]; rfl
theorem Kx.set {fs:xE} {m i:Nat} (h:Kx fs m) (hi:i < 11) (B:i<=m) {f:Str} (D:canon.getD i "" = f) {v:V}:Kx (setF f v fs) (max m (i+1)):=by
 subst D
 obtain ⟨n,u,h2,h3⟩:=h
 unfold Kx
 rw [qGh,h3]
 by_cases q:i < n
 ·rw [c7 ((qGs n h2 i hi).mpr q)]
  exact ⟨n,Nat.max_le.mpr ⟨u,q⟩,h2,rfl⟩
 ·have e:i=n:=fD (d5 B u) (Nat.not_lt.mp q)
  rw [d0 (λ w=>q ((qGs n h2 i hi).mp w))]
  subst e
  exact ⟨i+1,Nat.max_le.mpr ⟨j6 u,d7 _⟩,hi,qOu i hi⟩
theorem Kx.less {fs:xE} {m u:Nat} (h:Kx fs m) (B:u<=m):Kx fs u:=let ⟨n,h1,h2⟩:=h; ⟨n,d5 B h1,h2⟩
theorem Kx.len {fs:xE} {m:Nat} (h:Kx fs m):fs.length<=100:=by
 obtain ⟨n,u,h2,h3⟩:=h
 have:=g8 List.length h3
 rw [k0,dS] at this
 rw [this]
 exact d5 (gW _ _) (d5 h2 (by decide))
theorem qAx {y:Str}:∀ {fs:xE},y ∉ fs.map (·.1)->fs.lookup y=none
 | [],_=>rfl
 | (z,u)::r,h=>by
  have B:(y == z)=false:=beq_eq_false_iff_ne.mpr λ q=>h (q ▸ .head _)
  rw [i8,B]
  exact qAx λ q=>h (.tail _ q)
theorem Kx.meth {fs:xE} {m:Nat} (h:Kx fs m) {y:Str} (hy:y ∉ canon):fs.lookup y=none:=by
 obtain ⟨n,_,_,h3⟩:=h
 refine qAx λ q=>hy ?_
 rw [h3] at q
 exact iZ q
theorem zZ {y:Str} {v:V}:∀ {fs:xE},(setF y v fs).lookup y=some v
 | []=>by show i8 y [(y,v)]=some v; simp
 | (z,u)::r=>by
  rw [qHk]
  by_cases h:(y == z)=true
  ·rw [c7 h,i8,h]
  ·rw [d0 h,i8]
   have h':(y == z)=false:=by simpa using h
   rw [h']
   exact zZ
theorem qF {x y:Str} {v:V} (B:(x == y)=false):∀ {fs:xE},(setF y v fs).lookup x=fs.lookup x
 | []=>by
  show (i8 x [(y,v)])=none
  rw [i8,B]; rfl
 | (z,u)::r=>by
  rw [qHk]
  by_cases h:(y == z)=true
  ·have e:y=z:=eF h
   subst e
   rw [c7 h,i8,B,i8,B]
  ·rw [d0 h,i8,i8,qF B]
structure FsP (fs:xE) (iw tw:Int) (x:Str) (l:Int):Prop where
 kx:Kx fs 4
 iw:fs.lookup ("indentwidth" : Str)=some (.int iw)
 tw:fs.lookup ("tabwidth" : Str)=some (.int tw)
 code:fs.lookup ("code" : Str)=some (.str x)
 lev:fs.lookup ("study_level" : Str)=some (.int l)
theorem FsP.setLev {fs:xE} {iw tw:Int} {x:Str} {l l':Int} (h:FsP fs iw tw x l):FsP (setF "study_level" (.int l') fs) iw tw x l' :=
 ⟨(h.kx.set (i:=3) (by decide) (by decide) (by decide +kernel)).less (by decide),(qF (by decide)).trans h.iw,(qF (by decide)).trans h.tw,(qF (by decide)).trans h.code,zZ⟩
noncomputable def grown (H:Hp) (d:Nat) (D L:O):Hp:={ obj:=λ i=>if i=H.nxt then some L else if i=d then some D else H.obj i,nxt:=H.nxt+1 }
noncomputable def base (H:Hp) (d:Nat) (D:O):Hp:={ obj:=λ i=>if i=d then some D else H.obj i,nxt:=H.nxt+1 }
theorem qDy {H:Hp} {d:Nat} {D L:O}:hput (base H d D) H.nxt L=grown H d D L:=rfl
theorem qTx {H:Hp} {d:Nat} {D D' L:O} (h:d≠H.nxt):hput (grown H d D L) d D'=grown H d D' L:=by
 unfold hput grown
 refine g8 (λ o=>Hp.mk o (H.nxt+1)) (funext λ j=>?_)
 show (if j=d then some D' else if j=H.nxt then some L else if j=d then some D else H.obj j)=if j=H.nxt then some L else if j=d then some D' else H.obj j
 by_cases u:j=d
 ·subst u; rw [c7 rfl,d0 h,c7 rfl]
 ·rw [d0 u,d0 u,d0 u]
theorem zJn {H:Hp} {d:Nat} {D D' L:O} (h:d≠H.nxt):hput (Hp.add (hput H d D) L) d D'=grown H d D' L:=by
 show hput { obj:=λ i=>if i=H.nxt then some L else (hput H d D).obj i,nxt:=H.nxt+1 } d D'=_
 unfold hput grown
 refine g8 (λ o=>Hp.mk o (H.nxt+1)) (funext λ j=>?_)
 show (if j=d then some D' else if j=H.nxt then some L else if j=d then some D else H.obj j)=if j=H.nxt then some L else if j=d then some D' else H.obj j
 by_cases u:j=d
 ·subst u; rw [c7 rfl,d0 h,c7 rfl]
 ·rw [d0 u,d0 u,d0 u]
section
variable {cx:Sx} {pp:bA} {Z:St} {x:Str} {k d j p:Nat} {H:Hp} {m R:Mk} {fs:xE}
theorem qYp {gl:Ln} {a:Nat} (h:gl.getLast? = some a) (B:gl.length<=2000) {Z:St} {j:Nat} {H:Hp} (hp:Z.toHp=hput H j (.list (natsV gl))):wF Z.toHp (.ref j) (.int (-1))=.ok (.int (a:Nat)):=by
 have u:gl.length≠0:=by rintro q; rw [dU q] at h; cases h
 have hs:seqIndex? (-1) gl.length=some (gl.length - 1):=by
  have e:(if (-1:Int) < 0 then (-1:Int)+gl.length else -1)=((gl.length - 1:Nat):Int):=by rw [c7 (by decide)]; exact m_b3 u
  unfold seqIndex?
  rw [e]
  exact (c7 (by rw [d8]; exact ⟨h8 (by exact bQ _),h8 (by lia)⟩)).trans (g8 some (dP _))
 refine uP (xs:=natsV gl) (j:=gl.length - 1) rfl ?_ (by decide) ?_ ?_
 ·rw [hp]
  show (match (hput H j (.list (natsV gl))).obj j with | some (.list xs)=>some xs | _=>none)=_
  rw [xW]
 ·unfold natsV; rw [k0]; exact hs
 ·unfold natsV
  rw [hA]
  rw [dK] at h
  rw [h]; rfl
theorem vH {a b:Nat}:((a:Int) == (b:Int))=decide (a=b):=by
 by_cases e:a=b
 ·subst e; simp
 ·rw [r5 e]; exact beq_eq_false_iff_ne.mpr λ q=>e (by exact Int.ofNat_inj.mp q)
theorem zAo (B:Bx (G09 pp) cx) {D:O} (hd:d≠H.nxt) (h:B1 x k H.nxt (base H d D) p m Z) (V:PO (grown H d D (.list (natsV m.gl))) k d fs) (T:Kx fs 5) (u:m.gl.length<=1001) {a:Nat} (ha:m.gl.getLast? = some a)
  (U:decide (m.cont=0)=decide (a=m.lno)) :
  Gd (ex zAp cx Z) λ f Z'=>f=.next/\Z'.toHp=grown H d (.dict (setF "continuation" (.int (m.cont:Nat)) fs)) (.list (natsV (if a=m.lno then m.gl else m.gl++[m.lno]))):=by
 unfold zAp
 refine qD (jN (qB h.cont) (qB h.self) (H:=grown H d (.dict (setF "continuation" (.int (m.cont:Nat)) fs)) (.list (natsV m.gl))) ?_ ?_)
 ·rw [h.hp,qDy,V.setA B (by decide) T.len,qTx hd]
 have h2:B1 x k H.nxt (base H d (.dict (setF "continuation" (.int (m.cont:Nat)) fs))) p m { Z with toHp:=grown H d (.dict (setF "continuation" (.int (m.cont:Nat)) fs)) (.list (natsV m.gl)) } :=
  ⟨h.self,h.code,h.cont,h.lev,h.lno,h.good,h.push,h.i,h.n,rfl⟩
 generalize ({ Z with toHp:=grown H d (.dict (setF "continuation" (.int (m.cont:Nat)) fs)) (.list (natsV m.gl)) }:St)=Z at h2 ⊢
 have hi:=qYp ha (by exact d5 u (by decide)) h2.hp
 refine xA ?_ ?_
 ·rw [zOu (vT (qB h2.cont) (qZ (zNv B))) (vT (xF (qB h2.good) yB hi) (qB h2.lno)),vH,show (((m.cont:Nat):Int) == 0)=decide (m.cont=0) from vH (b:=0),U,iQ]
 refine zW (qJm (xF (qB h2.good) yB hi) (qB h2.lno)) (λ e=>?_) (λ e=>?_)
 ·have J:a≠m.lno:=by rintro rfl; simp at e
  rw [d0 J]
  have L:cx.app (.bnd H.nxt) [.int (m.lno:Nat)] Z.toHp=okH .none (grown H d (.dict (setF "continuation" (.int (m.cont:Nat)) fs)) (.list (natsV (m.gl++[m.lno])))):=by
   rw [B.bd,h2.hp]
   show ((asO ((hput (base H d (.dict (setF "continuation" (.int (m.cont:Nat)) fs))) H.nxt (.list (natsV m.gl))).obj H.nxt)).map λ xs=>(H.nxt,xs)).elim Rs.bad _=_
   rw [xW]
   have u:(natsV m.gl).length+1<=g0:=by
    unfold natsV; rw [k0]
    have:g0=16777216:=by decide
    lia
   refine (c7 u).trans ?_
   show okH .none (hput (hput (base H d (.dict (setF "continuation" (.int (m.cont:Nat)) fs))) H.nxt (.list (natsV m.gl))) H.nxt (.list (natsV m.gl++[.int (m.lno:Nat)])))=_
   rw [qQj,← qDy]
   unfold natsV; rw [eH]; rfl
  exact xI (xZ (qB h2.push) (qJ (qB h2.lno) rfl) L) (gd_nil (gd_nil ⟨rfl,rfl⟩))
 ·have J:a=m.lno:=by
   have:((a:Int) == (m.lno:Int))=true:=by
    cases S:((a:Int) == (m.lno:Int)) with
    | true=>rfl
    | false=>rw [bne,S] at e; exact zT1 e
   have:=eF this
   lia
  rw [c7 J]
  exact gd_nil ⟨rfl,h2.hp⟩
theorem zAq (B:Bx (G09 pp) cx) {D:O} (hd:d≠H.nxt) (h:B1 x k H.nxt (base H d D) p R Z) (hP:PO (grown H d D (.list (natsV R.gl))) k d fs) (X:Kx fs 5) (Y:R.gl.length<=1001) (S:R.gl≠[])
  {gl:Ln} {c:Nat} (u:ends R=some (gl,c)) :
  Gd (ex zQc cx Z) λ f Z'=>f=.next/\Z'.toHp=grown H d (.dict (setF "continuation" (.int (c:Nat)) fs)) (.list (natsV gl)):=by
 unfold ends at u
 dsimp only at u
 obtain ⟨a,ha⟩:∃ a,R.gl.getLast? = some a:=⟨R.gl.getLast S,dW S⟩
 have L:(R.gl.getLast? = some R.lno) ↔ a=R.lno:=by rw [ha]; exact ⟨λ q=>j7 q,λ q=>g8 some q⟩
 have J:∀ (c':Nat) (Z:St),(if R.cont≠2/\R.cont≠3/\0 < R.level then 4 else R.cont)=c'->B1 x k H.nxt (base H d D) p { R with cont:=c' } Z->Gd (ex zAp cx Z) λ f Z'=>f=.next/\Z'.toHp=grown H d (.dict (setF "continuation" (.int (c:Nat)) fs)) (.list (natsV gl)):=by
  intro c' Z V h'
  rw [V] at u
  by_cases T:decide (c'=0)=decide (R.gl.getLast? = some R.lno)
  ·rw [c7 T] at u
   have e:=j7 u
   have e1:(if R.gl.getLast? = some R.lno then R.gl else R.gl++[R.lno])=gl:=g8 Prod.fst e
   have e2:c'=c:=g8 Prod.snd e
   subst e2
   have r:=zAo B hd h' hP X Y (a:=a) ha (by rw [show decide (c'=0)=decide (R.gl.getLast? = some R.lno) from T]; exact decide_eq_decide.mpr L)
   have e3:(if a=R.lno then R.gl else R.gl++[R.lno])=gl:=by
    rw [← e1]
    by_cases q:a=R.lno
    ·rw [c7 q,c7 (L.mpr q)]
    ·rw [d0 q,d0 λ q'=>q (L.mp q')]
   rw [← e3]
   exact r
  ·rw [d0 T] at u; cases u
 show Gd (ex (.seq (.ite (.and (.cmp .NotEq (.var "continuation") (.glob "C_STRING_FIRST_LINE")) (.and (.cmp .NotEq (.var "continuation") (.glob "C_STRING_NEXT_LINES")) (.cmp .Gt (.var "level") (.int 0)))) (.seq (.asg "continuation" (.glob "C_BRACKET")) .nil) .nil) zAp) cx Z) _
 refine zW (t:=(decide (R.cont≠2) && (decide (R.cont≠3) && decide (0 < R.level)))) (yC (p:=decide (R.cont≠2)) ?_ λ z=>yC (p:=decide (R.cont≠3)) ?_ λ z=>?_) (λ e=>?_) (λ e=>?_)
 ·rw [qJm (qB h.cont) (qZ (zNu B))]
  congr 2
  by_cases e:R.cont=2
  ·rw [e]; rfl
  ·rw [h8 e]; simpa using (by exact pH rfl rfl e:¬ ((R.cont:Nat):Int)=2)
 ·rw [qJm (qB h.cont) (qZ (zNt B))]
  congr 2
  by_cases e:R.cont=3
  ·rw [e]; rfl
  ·rw [h8 e]; simpa using (by exact pH rfl rfl e:¬ ((R.cont:Nat):Int)=3)
 ·rw [zJv (qB h.lev) rfl]
  congr 2
  by_cases e:0 < R.level
  ·rw [h8 e]; exact h8 (by simp [e])
  ·rw [r5 e]; exact r5 (by simp [e])
 ·have U:R.cont≠2/\R.cont≠3/\0 < R.level:=by
   rw [d8,d8] at e
   exact ⟨m5 e.1,m5 e.2.1,m5 e.2.2⟩
  exact qE (qZ (zRg B)) (gd_nil (J 4 _ (c7 U) (h.setcont rfl)))
 ·have U:¬ (R.cont≠2/\R.cont≠3/\0 < R.level):=by
   rintro ⟨h1,h2,h3⟩
   rw [h8 h1,h8 h2,h8 h3] at e; exact zT1 e
  exact J R.cont Z (d0 U) h
theorem qVd (B:Bx (G09 pp) cx) (hs:x.length<=1000) (hd:d < H.nxt) (hk:k < H.nxt) (u:Z.loc.lookup ("self" : Str)=some (.ref k)) (h2:Z.loc.lookup ("code" : Str)=some (.str x)) (S:Z.toHp=hput H d (.dict fs)) (J:PO Z.toHp k d fs)
  (hF:Kx fs 4) (hR:scan 1000 .out x.cps.toList ⟨0,0,[0],0⟩=some R) {gl:Ln} {c:Nat} (hE:ends R=some (gl,c)) (a2:R.gl≠[]) :
  Gd (ex qOz cx Z) λ f Z'=>f=.next/\Z'.toHp=grown H d (.dict (setF "continuation" (.int (c:Nat)) (setF "goodlines" (.ref H.nxt) fs))) (.list (natsV gl)):=by
 have U:d≠H.nxt:=r9 hd
 have Y:k≠H.nxt:=r9 hk
 have a6:∀ (D:xE) (L:O),PO (grown H d (.dict D) L) k d D:=λ D L=>by
  refine ⟨?_,?_,J.ne⟩
  ·have e:=J.inst
   rw [S,qH J.ne] at e
   exact (d0 Y).trans ((d0 J.ne).trans e)
  ·exact (d0 U).trans (c7 rfl)
 unfold qOz
 refine qE (qZ (zNv B)) ?_
 replace u:=@qA Z "continuation" "self" (.int 0) _ (by decide) u
 replace h2:=@qA Z "continuation" "code" (.int 0) _ (by decide) h2
 have h3:=@qC Z "continuation" (.int 0)
 replace S:(Z.set "continuation" (.int 0)).toHp=_:=S
 replace J:PO (Z.set "continuation" (.int 0)).toHp k d fs:=J
 generalize Z.set "continuation" (.int 0)=Z at u h2 h3 S J ⊢
 refine qD (zIb (v:=.int 0) (a0:=Z) rfl ?_)
 replace u:=@qA _ "lno" "self" (.int 0) _ (by decide) (@qA Z "level" "self" (.int 0) _ (by decide) u)
 replace h2:=@qA _ "lno" "code" (.int 0) _ (by decide) (@qA Z "level" "code" (.int 0) _ (by decide) h2)
 replace h3:=@qA _ "lno" "continuation" (.int 0) _ (by decide) (@qA Z "level" "continuation" (.int 0) _ (by decide) h3)
 have h4:=@qA (Z.set "level" (.int 0)) "lno" "level" (.int 0) _ (by decide) qC
 have h5:=@qC (Z.set "level" (.int 0)) "lno" (.int 0)
 replace S:((Z.set "level" (.int 0)).set "lno" (.int 0)).toHp=_:=S
 replace J:PO ((Z.set "level" (.int 0)).set "lno" (.int 0)).toHp k d fs:=J
 generalize (Z.set "level" (.int 0)).set "lno" (.int 0)=Z at u h2 h3 h4 h5 S J ⊢
 have T:Z.nxt=H.nxt:=by
  show Z.toHp.nxt=_
  rw [S]; rfl
 have a1:PO (Z.add (.list [.int 0])).toHp k d fs:=by
  have e:∀ i,i≠H.nxt->(Z.add (.list [.int 0])).obj i=Z.obj i:=λ i hi=>d0 (by rw [T]; exact hi)
  exact ⟨(e k Y).trans J.inst,(e d U).trans J.dict,J.ne⟩
 have X:(Z.add (.list [.int 0])).toHp=Hp.add (hput H d (.dict fs)) (.list [.int 0]):=by
  show Hp.add Z.toHp _=_
  rw [S]
 refine qD (zHy (xs:=[.int 0]) (a0:=Z) (a7:=Z.add (.list [.int 0])) (H:=grown H d (.dict (setF "goodlines" (.ref H.nxt) fs)) (.list [.int 0])) (xO (qJ rfl rfl) (by decide)) (qB u) ?_ ?_)
 ·rw [a1.setA B (by decide) hF.len,X,T,zJn U]
 rw [T]
 replace u:(({ Z.add (.list [.int 0]) with toHp:=grown H d (.dict (setF "goodlines" (.ref H.nxt) fs)) (.list [.int 0]) }:St).set "goodlines" (.ref H.nxt)).loc.lookup ("self" : Str)=_:=zX2 u
 replace h2:(({ Z.add (.list [.int 0]) with toHp:=grown H d (.dict (setF "goodlines" (.ref H.nxt) fs)) (.list [.int 0]) }:St).set "goodlines" (.ref H.nxt)).loc.lookup ("code" : Str)=_:=zX2 h2
 replace h3:(({ Z.add (.list [.int 0]) with toHp:=grown H d (.dict (setF "goodlines" (.ref H.nxt) fs)) (.list [.int 0]) }:St).set "goodlines" (.ref H.nxt)).loc.lookup ("continuation" : Str)=_:=zX2 h3
 replace h4:(({ Z.add (.list [.int 0]) with toHp:=grown H d (.dict (setF "goodlines" (.ref H.nxt) fs)) (.list [.int 0]) }:St).set "goodlines" (.ref H.nxt)).loc.lookup ("level" : Str)=_:=zX2 h4
 replace h5:(({ Z.add (.list [.int 0]) with toHp:=grown H d (.dict (setF "goodlines" (.ref H.nxt) fs)) (.list [.int 0]) }:St).set "goodlines" (.ref H.nxt)).loc.lookup ("lno" : Str)=_:=zX2 h5
 have V:(({ Z.add (.list [.int 0]) with toHp:=grown H d (.dict (setF "goodlines" (.ref H.nxt) fs)) (.list [.int 0]) }:St).set "goodlines" (.ref H.nxt)).loc.lookup ("goodlines" : Str)=_:=qC
 have hg:(({ Z.add (.list [.int 0]) with toHp:=grown H d (.dict (setF "goodlines" (.ref H.nxt) fs)) (.list [.int 0]) }:St).set "goodlines" (.ref H.nxt)).toHp=grown H d (.dict (setF "goodlines" (.ref H.nxt) fs)) (.list [.int 0]):=rfl
 clear S J a1 X T
 generalize ({ Z.add (.list [.int 0]) with toHp:=grown H d (.dict (setF "goodlines" (.ref H.nxt) fs)) (.list [.int 0]) }:St).set "goodlines" (.ref H.nxt)=Z at u h2 h3 h4 h5 V hg ⊢
 have hG:Kx (setF "goodlines" (.ref H.nxt) fs) 5:=hF.set (i:=4) (by decide) (by decide) (by decide +kernel)
 generalize setF "goodlines" (.ref H.nxt) fs=fs' at hg hG
 refine qE (yI (qB V) (qOj B (xs:=[.int 0]) (by rw [hg]; exact c7 rfl))) ?_
 replace u:=@qA Z "push_good" "self" (.bnd H.nxt) _ (by decide) u
 replace h2:=@qA Z "push_good" "code" (.bnd H.nxt) _ (by decide) h2
 replace h3:=@qA Z "push_good" "continuation" (.bnd H.nxt) _ (by decide) h3
 replace h4:=@qA Z "push_good" "level" (.bnd H.nxt) _ (by decide) h4
 replace h5:=@qA Z "push_good" "lno" (.bnd H.nxt) _ (by decide) h5
 replace V:=@qA Z "push_good" "goodlines" (.bnd H.nxt) _ (by decide) V
 have h7:=@qC Z "push_good" (.bnd H.nxt)
 replace hg:(Z.set "push_good" (.bnd H.nxt)).toHp=_:=hg
 generalize Z.set "push_good" (.bnd H.nxt)=Z at u h2 h3 h4 h5 V h7 hg ⊢
 refine qD (qIn (qVt (qJ rfl (qJ (qLy B h2) rfl)) (by show 2<=g0; decide)) ?_)
 have hB:B1 x k H.nxt (base H d (.dict fs')) 0 ⟨0,0,[0],0⟩ ((Z.set "i" (.int 0)).set "n" (.int (x.length:Nat))) :=
  ⟨zX2 (zX2 u),zX2 (zX2 h2),zX2 (zX2 h3),zX2 (zX2 h4),zX2 (zX2 h5),zX2 (zX2 V),zX2 (zX2 h7),zX2 qC,qC,hg⟩
 generalize (Z.set "i" (.int 0)).set "n" (.int (x.length:Nat))=Z at hB ⊢
 refine qY ((qXz (R:=R) B hs (d7 1000) ⟨1000,0,_,d7 _,m9 _,by show 1<=1; decide,hB,hR⟩).mono ?_)
 rintro f Z' ⟨rfl,p,hB',hl⟩
 exact zAq B U hB' (a6 _ _) hG hl a2 hE
theorem qRs (B:Bx (G09 pp) cx) (hd:d < H.nxt) (hk:k < H.nxt) (hP:PO H k d fs) {iw tw:Int} (X:FsP fs iw tw x 0) (hs:small x) {gl:Ln} {c:Nat} (hS:study (lastp (four (x.cps.toList.map tr12)))=some (gl,c))
  (Y:∀ R,scan 1000 .out (lastp (four (x.cps.toList.map tr12))) ⟨0,0,[0],0⟩=some R->R.gl≠[]) {l:List (Str×V)} (h1:l.lookup ("self" : Str)=some (.ref k)) {ce:List (Str×Nat)} :
  Gd (ex yW cx { toHp:=H,loc:=l,cel:=ce }) λ f Z'=>f=.next/\Z'.toHp=grown H d (.dict (setF "continuation" (.int (c:Nat)) (setF "goodlines" (.ref H.nxt) (setF "study_level" (.int 1) fs)))) (.list (natsV gl)):=by
 refine bC λ n0=>?_
 obtain ⟨U,e1,e2⟩:=zLb zKc hs
 have hl:U.length<=1000:=by
  have h3:U.cps.toList.length<=x.cps.toList.length:=by
   rw [e2]
   refine d5 (vO (by decide) _ _) (d5 (vO (by decide) _ _) (d5 (vO (by decide) _ _) (d5 (vO (by decide) _ _) (d5 (vO (by decide) _ _) ?_))))
   rw [k0]; exact d7 _
  rw [h9,h9] at h3
  exact d5 h3 hs.2
 obtain ⟨R,hR,hE⟩:∃ R,scan 1000 .out (lastp (four (x.cps.toList.map tr12))) ⟨0,0,[0],0⟩=some R/\ends R=some (gl,c):=Option.bind_eq_some_iff.mp hS
 refine n0 ?_
 unfold yW
 have u:({ toHp:=H,loc:=l,cel:=ce }:St).loc.lookup ("self" : Str)=some (.ref k):=h1
 have D:PO ({ toHp:=H,loc:=l,cel:=ce }:St).toHp k d fs:=hP
 have T:({ toHp:=H,loc:=l,cel:=ce }:St).toHp=H:=rfl
 generalize ({ toHp:=H,loc:=l,cel:=ce }:St)=Z at u D T ⊢
 refine zW (t:=decide ((0:Int) ≥ 1)) (zJw (yI (qB u) (D.fld B (by decide) X.lev rfl)) rfl) (λ q=>f8 q (by decide)) λ z=>?_
 refine qD (jN (a0:=Z) (v:=.int 1) rfl (qB u) (D.setA B (by decide) X.kx.len) ?_)
 have J:PO ({ Z with toHp:=hput Z.toHp d (.dict (setF "study_level" (.int 1) fs)) }:St).toHp k d _:=D.put
 have O:({ Z with toHp:=hput Z.toHp d (.dict (setF "study_level" (.int 1) fs)) }:St).loc.lookup ("self" : Str)=some (.ref k):=u
 have L:({ Z with toHp:=hput Z.toHp d (.dict (setF "study_level" (.int 1) fs)) }:St).toHp=hput H d (.dict (setF "study_level" (.int 1) fs)):=by rw [← T]
 generalize ({ Z with toHp:=hput Z.toHp d (.dict (setF "study_level" (.int 1) fs)) }:St)=Z at J O L ⊢
 have S:=X.setLev (l':=1)
 generalize setF "study_level" (.int 1) fs=fs2 at J L S ⊢
 refine qE (yI (qB O) (J.fld B (by decide) S.code rfl)) ?_
 refine zPy (f:=tr12) (v:=x) (v':=U) qC (vt:=.top (.ref 73)) (by rw [B.gl]; rfl) (by rw [B.tr]; rfl) e1 ?_
 exact qVd B hl hd hk (zX2 (zX2 O)) qC L J S.kx (by rw [e2]; exact hR) hE (Y R hR)
end
abbrev T (pp:bA) (n:Nat):Sx:=tower (G09 pp) rows09 137 n
section
variable {pp:bA} {n k d j:Nat} {H:Hp} {fs:xE} {x:Str}
theorem qCb {f:Addr} {sc:Scope} {ps:List Str} {b:S} {args:List V} {cx:Sx} {B:Fl} {Z':St} {v:V} (u:rows09.lookup f=some (sc,ps,b)) (D:args.length=ps.length) (J:ex b cx (entry (ps.zip args) H)=.ok B Z') (hr:qHo B Z'=.ok v Z') (hc:qCd sc ps=true:=by decide +kernel):zH rows09 cx f args H=.ok v Z':=by
 unfold zH
 rw [u]
 dsimp only
 unfold jZ
 rw [c7 D,qIt hc,Rs.bind_ok J,hr]
theorem uZ {f:Addr} (u:f≠231/\f≠48) {args:List V}:∀ n,(T pp (n+1)).app (.top (.ref f)) args H=zH rows09 (T pp n) f args H
 | 0=>d0 u.2
 | _+1=>(d0 u.2).trans (d0 u.1)
theorem qEo {f:Addr} {sc:Scope} {ps:List Str} {b:S} {args:List V} {v:V} (Q:Hp->Prop) (B:f≠231/\f≠48) (u:rows09.lookup f=some (sc,ps,b)) (D:args.length=ps.length)
  (h:∀ Z:St,Z.loc=ps.zip args->Z.toHp=H->Gd (ex b (T pp n) Z) λ f Z'=>qHo f Z'=.ok v Z'/\Q Z'.toHp) (hc:qCd sc ps=true:=by decide +kernel):∃ Z',(T pp (n+1)).app (.top (.ref f)) args H=.ok v Z'/\Q Z'.toHp:=by
 obtain ⟨J,Z',e,r,w⟩:=h (entry (ps.zip args) H) rfl rfl
 exact ⟨Z',by rw [uZ B]; exact qCb u D e r hc,w⟩
theorem PO.get {cx:Sx} (B:Bx (G09 pp) cx) (h:PO H k d fs) {m:Str} {a:Addr} (u:fs.lookup m=none) (ha:meths09.lookup m=some a):cx.get (.ref k) m H=some (.top (.ref a),[.ref k]):=by
 rw [B.get]
 show (kZ (G09 pp) (.ref k) H).elim _ _=_
 rw [h.at]
 refine (c7 u).trans ?_
 show (meths09.lookup m).map _=_
 rw [ha]; rfl
structure FsI (fs:xE) (iw tw:Int):Prop where
 kx:Kx fs 2
 iw:fs.lookup ("indentwidth" : Str)=some (.int iw)
 tw:fs.lookup ("tabwidth" : Str)=some (.int tw)
theorem FsI.set {fs:xE} {iw tw:Int} (h:FsI fs iw tw) (x:Str):FsP (setF "study_level" (.int 0) (setF "code" (.str x) fs)) iw tw x 0 :=
 ⟨((h.kx.set (i:=2) (by decide) (by decide) (by decide +kernel)).set (i:=3) (by decide) (by decide) (by decide +kernel)),(qF (by decide)).trans ((qF (by decide)).trans h.iw),(qF (by decide)).trans ((qF (by decide)).trans h.tw),(qF (by decide)).trans zZ,zZ⟩
theorem qGm (hs:x.length<=1000) {l:Ln} {c:Nat} (hx:x.cps.toList=l++[c]):wF H (.str x) (.int (-1))=.ok (.str ⟨#[c]⟩):=by
 have B:x.length=l.length+1:=by
  have:=g8 List.length hx
  rw [h9,g7,k8] at this
  exact this
 have u:seqIndex? (-1) x.length=some l.length:=by
  have e:(if (-1:Int) < 0 then (-1:Int)+x.length else -1)=((l.length:Nat):Int):=by rw [c7 (by decide)]; exact m_b4 B
  unfold seqIndex?
  rw [e]
  exact (c7 (by rw [d8]; exact ⟨h8 (by simp),h8 (by lia)⟩)).trans (g8 some (dP _))
 refine qIk (j:=l.length) (by decide) u ?_
 rw [← dI,hx,eJ (d7 _),lR]
 rfl
def zOo (x:Str):Prop:=x.cps.toList=[]\/∃ l,x.cps.toList=l++[10]
theorem qKd (hs:x.length<=1000) (hx:zOo x) (J:PO H k d fs) {iw tw:Int} (O:FsI fs iw tw):∃ Z',(T pp (n+1)).app (.top (.ref 144)) [.ref k,.str x] H=.ok .none Z'/\Z'.toHp=hput H d (.dict (setF "study_level" (.int 0) (setF "code" (.str x) fs))):=by
 have B:=qEk (G:=G09 pp) (rows:=rows09) (fI:=137) n
 refine qEo (· = hput H d (.dict (setF "study_level" (.int 0) (setF "code" (.str x) fs)))) (by decide) (by rfl) rfl λ Z u h3=>?_
 have L:Z.loc.lookup ("self" : Str)=some (.ref k):=by rw [u]; rfl
 have h2:Z.loc.lookup ("s" : Str)=some (.str x):=by rw [u]; rfl
 unfold qAa
 refine xA ?_ ?_
 ·have e1:=vT (qLy B h2) (show ev (T pp n).toCx (.int 0) Z=.ok (.int 0) Z from rfl)
  have e2:∀ q:Bool,(((x.length:Nat):Int) == 0)=q->ev (T pp n).toCx (.or (.cmp .Eq (.call (.glob "len") (.cons (.var "s") .nil)) (.int 0)) (.cmp .Eq (.idx (.var "s") (.neg (.int 1))) (.str "\n"))) Z=.ok (.bool true) Z:=by
   intro q D
   rw [D] at e1
   cases q with
   | true=>exact qVu (q:=true) e1 (λ h=>zT1 h)
   | false =>
    refine qVu (q:=true) e1 (λ z=>?_)
    rcases hx with hx | ⟨l,hx⟩
    ·exfalso
     have u:x.length=0:=by
      have:=g8 List.length hx
      rw [h9] at this
      exact this
     rw [u] at D; exact zT1 D
    ·rw [qCn (xF (qB h2) yB (qGm hs hx)) rfl,nlS]; rfl
  exact e2 _ rfl
 rw [← h3] at J ⊢
 refine qD (jN (qB h2) (qB L) (J.setA B (by decide) O.kx.len) ?_)
 have h4:({ Z with toHp:=hput Z.toHp d (.dict (setF "code" (.str x) fs)) }:St).loc.lookup ("self" : Str)=some (.ref k):=L
 refine qD (jN (v:=.int 0) rfl (qB h4) ((J.put (fs':=setF "code" (.str x) fs)).setA B (by decide) (O.kx.set (i:=2) (by decide) (by decide) (by decide +kernel)).len) (gd_nil ⟨rfl,?_⟩))
 exact qQj
structure Ready (H:Hp) (k d:Nat) (fs:xE) (iw tw:Int) (x:Str) (gl:Ln) (c:Nat):Prop where
 po:PO H k d fs
 k:k < H.nxt
 d:d < H.nxt
 fs:FsP fs iw tw x 0
 small:small x
 study:study (lastp (four (x.cps.toList.map tr12)))=some (gl,c)
 ne:∀ R,scan 1000 .out (lastp (four (x.cps.toList.map tr12))) ⟨0,0,[0],0⟩=some R->R.gl≠[]
def stud (fs:xE) (j c:Nat):xE:=setF "continuation" (.int (c:Nat)) (setF "goodlines" (.ref j) (setF "study_level" (.int 1) fs))
theorem qRt {iw tw:Int} {gl:Ln} {c:Nat} (h:Ready H k d fs iw tw x gl c):∃ Z',(T pp (n+1)).app (.top (.ref 165)) [.ref k] H=.ok .none Z'/\Z'.toHp=grown H d (.dict (stud fs H.nxt c)) (.list (natsV gl)):=by
 have B:=qEk (G:=G09 pp) (rows:=rows09) (fI:=137) n
 obtain ⟨f,Z',e,rfl,e2⟩:=qRs B h.d h.k h.po h.fs h.small h.study h.ne (l:=[("self", .ref k)]) rfl (ce:=[])
 refine ⟨Z',?_,e2⟩
 rw [uZ (by decide)]
 exact qCb (by rfl) rfl e rfl
theorem qZo {D:xE} {L:O} (h:PO H k d fs) (hk:k < H.nxt) (hd:d < H.nxt):PO (grown H d (.dict D) L) k d D :=
 ⟨(d0 (r9 hk)).trans ((d0 h.ne).trans h.inst),(d0 (r9 hd)).trans (c7 rfl),h.ne⟩
structure FsS (fs:xE) (iw tw:Int) (x:Str) (l:Int) (j c:Nat):Prop extends FsP fs iw tw x l where
 kx6:Kx fs 6
 good:fs.lookup ("goodlines" : Str)=some (.ref j)
 cont:fs.lookup ("continuation" : Str)=some (.int (c:Nat))
theorem zDd {iw tw:Int} {j c:Nat} (h:FsP fs iw tw x 0):FsS (stud fs j c) iw tw x 1 j c:=by
 have u:=h.setLev (l':=1)
 have B:=(u.kx.set (i:=4) (f:="goodlines") (v:=.ref j) (by decide) (by decide) (by decide +kernel)).set (i:=5) (f:="continuation") (v:=.int (c:Nat)) (by decide) (by decide) (by decide +kernel)
 refine ⟨⟨B.less (by decide),?_,?_,?_,?_⟩,B,?_,zZ⟩
 ·exact (qF (by decide)).trans ((qF (by decide)).trans u.iw)
 ·exact (qF (by decide)).trans ((qF (by decide)).trans u.tw)
 ·exact (qF (by decide)).trans ((qF (by decide)).trans u.code)
 ·exact (qF (by decide)).trans ((qF (by decide)).trans u.lev)
 ·exact (qF (by decide)).trans zZ
end
end Mine.Lake.L09
namespace Mine.Lake.Rp
open PySem
noncomputable def rstep (c:Nat) (l mode ns:Ln) (op:Nat):Nat×Ln×Nat :=
 if mode=[35] then (1,if c=10 then [] else mode,op)
 else if c=92 then (2,mode,op)
 else if mode≠[]/\(c::l).take mode.length=mode then (mode.length,[],op)
 else if mode=[]/\(c=39\/c=34\/c=35) then
  (if c≠35/\(c::l).take 3=[c,c,c] then (3,[c,c,c],ns.length - 1) else (1,[c],ns.length - 1))
 else if c=10/\mode.length=1 then (1,[],op)
 else (1,mode,op)
noncomputable def rnote (eaten mode ns:Ln):Ln:=if eaten.getLast? = some 10 then ns++[if mode≠[] then 2 else eaten.length - 1] else ns
def rd:Nat->Ln->Ln->Ln->Nat->Option (Ln×Nat)
 | 0,_,_,_,_=>none
 | _+1,[],_,ns,op=>some (ns,op)
 | n+1,c::l,mode,ns,op=>rd n ((c::l).drop (rstep c l mode ns op).1) (rstep c l mode ns op).2.1 (rnote ((c::l).take (rstep c l mode ns op).1) (rstep c l mode ns op).2.1 ns) (rstep c l mode ns op).2.2
section
variable {n c d q w op:Nat} {l mode ns:Ln}
theorem yE {k:Nat} {mode':Ln} {u:Nat} (h:rstep c l mode ns op=(k,mode',u)):rd (n+1) (c::l) mode ns op=rd n ((c::l).drop k) mode' (rnote ((c::l).take k) mode' ns) u:=by
 show rd n _ _ _ _=_
 rw [h]
theorem qDk:rnote [c] mode ns=if c=10 then ns++[if mode≠[] then 2 else 0] else ns:=by
 unfold rnote
 show (if some c=some 10 then _ else _)=_
 by_cases h:c=10
 ·subst h; rfl
 ·rw [d0 h,d0 λ e=>h (j7 e)]
theorem qNp:rd (n+1) (c::l) [35] ns op=if c=10 then rd n l [] (ns++[0]) op else rd n l [35] ns op:=by
 rw [yE (k:=1) (c7 rfl)]
 show rd n l _ (rnote [c] _ ns) op=_
 rw [qDk]
 by_cases h:c=10
 ·rw [c7 h,c7 h,c7 h]; rfl
 ·rw [d0 h,d0 h,d0 h]
theorem qXu (u:mode≠[35]):rd (n+1) (92::d::l) mode ns op=rd n l mode (if d=10 then ns++[if mode≠[] then 2 else 1] else ns) op:=by
 rw [yE (k:=2) ((d0 u).trans (c7 rfl))]
 show rd n l mode (rnote [92,d] mode ns) op=_
 congr 1
 unfold rnote
 show (if some d=some 10 then _ else _)=_
 by_cases h:d=10
 ·subst h; rfl
 ·rw [d0 h,d0 λ e=>h (j7 e)]
theorem qAd (hc:c≠92):rd (n+1) (c::l) [] ns op=if c=39\/c=34 then (if (c::l).take 3=[c,c,c] then rd n (l.drop 2) [c,c,c] ns (ns.length - 1) else rd n l [c] ns (ns.length - 1))
  else if c=35 then rd n l [35] ns (ns.length - 1) else if c=10 then rd n l [] (ns++[0]) op else rd n l [] ns op:=by
 have e:rstep c l [] ns op=if c=39\/c=34\/c=35 then
  (if c≠35/\(c::l).take 3=[c,c,c] then (3,[c,c,c],ns.length - 1) else (1,[c],ns.length - 1)) else (1,[],op):=by
  unfold rstep
  rw [zX1,d0 hc,d0 (λ q=>q.1 rfl)]
  by_cases h:c=39\/c=34\/c=35
  ·rw [c7 ⟨rfl,h⟩,c7 h]
  ·rw [d0 (λ q=>h q.2),d0 h,d0 (λ q=>by cases q.2)]
 by_cases h:c=39\/c=34
 ·have D:c≠35:=by rcases h with rfl | rfl <;> decide
  have B:c≠10:=by rcases h with rfl | rfl <;> decide
  rw [c7 h]
  rw [c7 (by rcases h with h | h <;> simp [h])] at e
  by_cases h3:(c::l).take 3=[c,c,c]
  ·rw [c7 ⟨D,h3⟩] at e
   rw [c7 h3,yE e,h3]
   congr 1
   exact d0 λ e=>B (j7 e)
  ·rw [d0 (λ q=>h3 q.2)] at e
   rw [d0 h3,yE e]
   show rd n l _ (rnote [c] _ ns) _=_
   rw [qDk,d0 B]
 ·rw [d0 h]
  by_cases h5:c=35
  ·subst h5
   rw [c7 (by decide),d0 (λ q=>q.1 rfl)] at e
   rw [c7 rfl,yE e]
   show rd n l _ (rnote [35] _ ns) _=_
   rw [qDk,zX1]
  ·rw [d0 (λ q:c=39\/c=34\/c=35=>q.elim (λ q=>h (.inl q)) λ q=>q.elim (λ q=>h (.inr q)) h5)] at e
   rw [d0 h5,yE e]
   show rd n l _ (rnote [c] _ ns) _=_
   rw [qDk]
   by_cases u:c=10
   ·rw [c7 u,c7 u]; rfl
   ·rw [d0 u,d0 u]
theorem qDh (J:q=34\/q=39) (hc:c≠92):rd (n+1) (c::l) (qG q w) ns op=if (c::l).take (w+1)=qG q w then rd n (l.drop w) [] ns op
  else if c=10 then (if w=0 then rd n l [] (ns++[0]) op else rd n l (qG q w) (ns++[2]) op) else rd n l (qG q w) ns op:=by
 have u:(qG q w).length=w+1:=dM
 have B:qG q w≠[]:=λ h=>by rw [h] at u; cases u
 have L:qG q w≠[35]:=λ h=>by
  have h':q::replicate w q=[35]:=h
  have:=(j5 h').1
  rcases J with rfl | rfl <;> cases this
 have e:rstep c l (qG q w) ns op=if (c::l).take (w+1)=qG q w then (w+1,[],op) else if c=10/\w=0 then (1,[],op) else (1,qG q w,op):=by
  unfold rstep
  rw [d0 L,d0 hc,u]
  by_cases h:(c::l).take (w+1)=qG q w
  ·rw [c7 ⟨B,h⟩,c7 h]
  ·rw [d0 (λ q=>h q.2),d0 h,d0 (λ q=>B q.1)]
   by_cases h2:c=10/\w=0
   ·rw [c7 ⟨h2.1,by rw [h2.2]⟩,c7 h2]
   ·rw [d0 (λ q=>h2 ⟨q.1,fZ q.2⟩),d0 h2]
 by_cases h:(c::l).take (w+1)=qG q w
 ·rw [c7 h] at e
  rw [c7 h,yE e,h]
  show rd n (l.drop w) _ _ _=_
  congr 1
  refine d0 λ z=>?_
  have:(qG q w).getLast? = some q:=by
   unfold qG
   rw [oU,u8]
  rw [this] at z
  rcases J with rfl | rfl <;> cases z
 ·rw [d0 h] at e ⊢
  by_cases h2:c=10
  ·rw [c7 h2]
   by_cases D:w=0
   ·rw [c7 ⟨h2,D⟩] at e
    rw [c7 D,yE e]
    show rd n l _ (rnote [c] _ ns) _=_
    rw [qDk,c7 h2]; rfl
   ·rw [d0 (λ q=>D q.2)] at e
    rw [d0 D,yE e]
    show rd n l _ (rnote [c] _ ns) _=_
    rw [qDk,c7 h2,c7 B]
  ·rw [d0 (λ q=>h2 q.1)] at e
   rw [d0 h2,yE e]
   show rd n l _ (rnote [c] _ ns) _=_
   rw [qDk,d0 h2]
end
inductive Vm:Ln->Prop
 | out:Vm []
 | com:Vm [35]
 | txt (q w:Nat):(q=34\/q=39)->(w=0\/w=2)->Vm (qG q w)
def E10 (l:Ln):Prop:=l=[]\/l.getLast? = some 10
theorem E10.tail {c:Nat} {l:Ln} (h:E10 (c::l)):E10 l:=by
 cases l with
 | nil=>exact .inl rfl
 | cons d l =>
  refine .inr ?_
  rcases h with h | h
  ·cases h
  ·rw [mY] at h; exact h
theorem E10.drop:∀ {k:Nat} {l:Ln},E10 l->E10 (l.drop k)
 | 0,_,h=>h
 | _+1,[],h=>h
 | k+1,_::_,h=>E10.drop (k:=k) h.tail
theorem E10.last {c:Nat} (h:E10 [c]):c=10:=by
 rcases h with h | h
 ·cases h
 ·exact j7 h
inductive Go (l mode ns:Ln) (op:Nat):Prop
 | nl (pre l' mode':Ln) (v:Nat):l=pre++10::l'->10 ∉ pre->Vm mode'->E10 l'->v<=2->(v=2 ↔ mode'≠[])->(∀ n,rd (n+1) l mode ns op=rd n l' mode' (ns++[v]) op)->Go l mode ns op
 | go (pre l' mode':Ln) (op':Nat):l=pre++l'->10 ∉ pre->pre≠[]->Vm mode'->E10 l'->(∀ n,rd (n+1) l mode ns op=rd n l' mode' ns op')->Go l mode ns op
theorem qTe {c:Nat} (h:c≠10) {l:Ln} (u:10 ∉ l):10 ∉ c::l:=λ q=>(List.mem_cons.mp q).elim (λ q=>h q.symm) u
theorem zKa {c op:Nat} {l mode ns:Ln} (hv:Vm mode) (D:E10 (c::l)):Go (c::l) mode ns op:=by
 have S:mode≠[35]->c=92->Go (c::l) mode ns op:=by
  intro V hc
  subst hc
  cases l with
  | nil=>exact f8 D.last (by decide)
  | cons d l =>
   by_cases hd:d=10
   ·subst hd
    refine .nl [92] l mode (if mode≠[] then 2 else 1) rfl (by decide) hv D.tail.tail ?_ ?_ λ n=>by rw [qXu V,c7 rfl]
    ·split <;> decide
    ·by_cases q:mode=[]
     ·rw [d0 (λ z=>z q)]; exact ⟨λ z=>(by cases z),λ z=>f8 q z⟩
     ·rw [c7 q]; exact ⟨λ y=>q,λ y=>rfl⟩
   ·exact .go [92,d] l mode op rfl (qTe (by decide) (qTe hd eX)) (eA _ _) hv D.tail.tail λ n=>by rw [qXu V,d0 hd]
 have one:∀ {mode' op'},c≠10->Vm mode'->(∀ n,rd (n+1) (c::l) mode ns op=rd n l mode' ns op')->Go (c::l) mode ns op:=λ hc L h' =>
  .go [c] l _ _ rfl (qTe hc eX) (eA _ _) L D.tail h'
 have nl:∀ {mode' v},c=10->Vm mode'->v<=2->(v=2 ↔ mode'≠[])->(∀ n,rd (n+1) (c::l) mode ns op=rd n l mode' (ns++[v]) op)->Go (c::l) mode ns op:=λ hc L T hi h' =>
  .nl [] l _ _ (by rw [hc]; rfl) eX L D.tail T hi h'
 have O:(0:Nat)=2 ↔ ([]:Ln)≠[]:=⟨λ q=>(by cases q),λ q=>f8 rfl q⟩
 cases hv with
 | com =>
  by_cases hc:c=10
  ·exact nl hc .out (m9 2) O λ n=>by rw [qNp,c7 hc]
  ·exact one hc .com λ n=>by rw [qNp,d0 hc]
 | out =>
  by_cases B:c=92
  ·exact S (by decide) B
  by_cases u:c=39\/c=34
  ·have J:c≠10:=by rcases u with rfl | rfl <;> decide
   by_cases h3:(c::l).take 3=[c,c,c]
   ·refine .go [c,c,c] (l.drop 2) [c,c,c] (ns.length - 1) ?_ (qTe J (qTe J (qTe J eX))) (eA _ _) (.txt c 2 u.symm (.inr rfl)) D.tail.drop λ n=>by rw [qAd B,c7 u,c7 h3]
    have:=v0 3 (c::l)
    rw [h3] at this
    exact this.symm
   ·exact one J (.txt c 0 u.symm (.inl rfl)) λ n=>by rw [qAd B,c7 u,d0 h3]; rfl
  ·by_cases h5:c=35
   ·exact one (by rw [h5]; decide) .com λ n=>by rw [qAd B,d0 u,c7 h5]
   ·by_cases hc:c=10
    ·exact nl hc .out (m9 2) O λ n=>by rw [qAd B,d0 u,d0 h5,c7 hc]
    ·exact one hc .out λ n=>by rw [qAd B,d0 u,d0 h5,d0 hc]
 | txt q w u hw =>
  by_cases B:c=92
  ·refine S (λ e=>?_) B
   have X:q::replicate w q=[35]:=e
   have:=(j5 X).1
   rcases u with rfl | rfl <;> cases this
  by_cases h3:(c::l).take (w+1)=qG q w
  ·refine .go (qG q w) (l.drop w) [] op ?_ (λ z=>?_) (λ e=>by cases e) .out D.tail.drop λ n=>by rw [qDh u B,c7 h3]
   ·have:=v0 (w+1) (c::l)
    rw [h3] at this
    exact this.symm
   ·have:=gQ z
    rcases u with rfl | rfl <;> cases this
  ·by_cases hc:c=10
   ·by_cases U:w=0
    ·exact nl hc .out (m9 2) O λ n=>by rw [qDh u B,d0 h3,c7 hc,c7 U]
    ·exact nl hc (.txt q w u hw) (d7 2) ⟨λ y e=>(by cases e),λ y=>rfl⟩ λ n=>by rw [qDh u B,d0 h3,c7 hc,d0 U]
   ·exact one hc (.txt q w u hw) λ n=>by rw [qDh u B,d0 h3,d0 hc]
theorem wW {pre l:Ln} (h:10 ∉ pre):(pre++l).count 10=l.count 10:=by
 rw [mL,List.count_eq_zero.mpr h,iX]
structure Rt (l ns:Ln) (R:Ln×Nat):Prop where
 pre:∃ t,R.1=ns++t/\(∀ v∈t,v<=2)
 len:R.1.length=ns.length+l.count 10
 at_:∀ k v,ns.length<=k->R.1[k]? = some v->v≠2->∃ n' done l' op',l=done++10::l'/\done.count 10+ns.length=k/\rd n' l' [] (R.1.take (k+1)) op'=some R
theorem qCc:∀ (n:Nat) {l mode ns:Ln} {op:Nat} {R:Ln×Nat},Vm mode->E10 l->rd n l mode ns op=some R->Rt l ns R
 | 0,_,_,_,_,_,_,_,h=>zN1 h
 | n+1,[],mode,ns,op,R,hv,hE,h=>by
  cases h
  exact ⟨⟨[],(cN _).symm,by simp⟩,rfl,λ k v hk hg=>by rw [eQ hk] at hg; cases hg⟩
 | n+1,c::l,mode,ns,op,R,hv,hE,h=>by
  cases zKa (ns:=ns) (op:=op) hv hE with
  | nl pre l' mode' v L hp S O Y hi h' =>
   rw [h'] at h
   replace h':=h
   refine bC λ D=>?_
   obtain ⟨⟨t,U,hb⟩,B,T⟩:=qCc n S O h'
   refine D ?_
   refine ⟨⟨v::t,by rw [U,u6]; rfl,λ u hu=>?_⟩,?_,λ k u hk hg hu=>?_⟩
   ·rcases List.mem_cons.mp hu with rfl | hu
    ·exact Y
    ·exact hb u hu
   ·rw [B,L,wW hp,fE,g7,k8]; exact l9 _ 1 _
   ·by_cases V:k=ns.length
    ·subst V
     have a0:v=u:=by
      rw [U,u6,eJ (d7 _),lR] at hg
      exact j7 hg
     have hm:mode'=[]:=by
      refine gF λ q=>hu ?_
      rw [← a0]; exact hi.mpr q
     refine ⟨n,pre,l',op,L,by rw [List.count_eq_zero.mpr hp,iX],?_⟩
     have e:R.1.take (ns.length+1)=ns++[v]:=by
      rw [U]
      have:ns.length+1=(ns++[v]).length:=by rw [g7,k8]
      rw [this,oX]
     subst hm; rw [e]; exact h'
    ·refine bC λ D=>?_
     obtain ⟨X,done,l2,J,e1,e2,e3⟩:=T k u (by rw [g7,k8]; exact cC hk (eO V)) hg hu
     refine D ?_
     refine ⟨X,pre++10::done,l2,J,by rw [L,e1,u6]; rfl,?_,e3⟩
     rw [wW hp,fE]
     rw [g7,k8] at e2
     exact (l9 _ 1 _).trans e2
  | go pre l' mode' J L hp a3 S O h' =>
   rw [h'] at h
   replace h':=h
   refine bC λ D=>?_
   obtain ⟨U,B,T⟩:=qCc n S O h'
   refine D ?_
   refine ⟨U,by rw [B,L,wW hp],λ k u hk hg hu=>?_⟩
   refine bC λ D=>?_
   obtain ⟨X,done,l2,J,e1,e2,e3⟩:=T k u hk hg hu
   refine D ?_
   exact ⟨X,pre++done,l2,J,by rw [L,e1,u6],by rw [wW hp]; exact e2,e3⟩
theorem qHp:∀ (n:Nat) {l mode ns:Ln} {op:Nat},Vm mode->E10 l->l.length < n->∃ R,rd n l mode ns op=some R
 | 0,_,_,_,_,_,_,h=>f8 h (lE _)
 | n+1,[],_,ns,op,_,_,_=>⟨_,rfl⟩
 | n+1,c::l,mode,ns,op,hv,hE,h=>by
  cases zKa (ns:=ns) (op:=op) hv hE with
  | nl pre l' mode' v D hp B u O hi h' =>
   rw [h']
   have e:=g8 List.length D
   rw [g7,m7 (as:=l')] at e
   exact qHp n B u (by exact m_e1 h e)
  | go pre l' mode' L D hp J B u h' =>
   rw [h']
   have e:=g8 List.length D
   have:=List.length_pos_iff.mpr J
   rw [g7] at e
   exact qHp n B u (by exact n_d7 h e this)
end Mine.Lake.Rp
namespace Mine.Lake.L09
open PySem Mine.Lake.Rp
noncomputable def glN (k:Nat) (ns:Ln):Ln:=0::((m4 (k+1) (ns.length - (k+1))).filter λ j=>ns[j]? == some 0).map (· - k)
noncomputable def contF (R:Ln×Nat):Nat:=if R.1.getLast? = some 2 then (if R.2+2=R.1.length then 2 else 3) else if R.1.getLast? = some 1 then 1 else 0
def qEq (c:Nat):Prop:=tr12 c≠40/\tr12 c≠41
theorem uQ {k v:Nat} {ns:Ln} (h:k < ns.length):glN k (ns++[v])=glN k ns++if v=0 then [ns.length - k] else []:=by
 unfold glN
 rw [g7,k8]
 have e:ns.length+1 - (k+1)=(ns.length - (k+1))+1:=by exact mQ h
 rw [e,List.range'_concat,gM,eH,iV]
 have B:(m4 (k+1) (ns.length - (k+1))).filter (λ j=>(ns++[v])[j]? == some 0)=(m4 (k+1) (ns.length - (k+1))).filter λ j=>ns[j]? == some 0:=by
  refine List.filter_congr λ j hj=>?_
  have:=List.mem_range'_1.mp hj
  rw [t9 (by exact n_rl this)]
 have h2:k+1+1 * (ns.length - (k+1))=ns.length:=by exact n_e6 e
 rw [B,h2]
 congr 2
 have h3:(ns++[v])[ns.length]? = some v:=by rw [eJ (d7 _),lR]; rfl
 by_cases u:v=0
 ·subst u
  rw [c7 rfl,u7 (by rw [h3]; rfl)]; rfl
 ·rw [d0 u,cO (by rw [h3]; simpa using u)]; rfl
theorem tr_keep:tr12 10=10/\tr12 34=34/\tr12 39=39/\tr12 35=35/\tr12 92=92:=by decide
theorem qCt {c d:Nat} (hp:qEq c) (hd:d=10\/d=34\/d=39\/d=35\/d=92):tr12 c=d ↔ c=d:=by
 constructor
 ·intro h
  unfold tr12 at h
  split at h
  ·exact f8 (by unfold tr12; rw [c7 ‹_›]) hp.1
  ·split at h
   ·exact f8 (by unfold tr12; rw [d0 ‹_›,c7 ‹_›]) hp.2
   ·split at h
    ·exact h
    ·exfalso; rcases hd with rfl | rfl | rfl | rfl | rfl <;> cases h
 ·rintro rfl
  rcases hd with rfl | rfl | rfl | rfl | rfl <;> decide
theorem zCt {c:Nat} (hp:qEq c) (h:¬ (c=10\/c=34\/c=39\/c=35\/c=92)):tr12 c=120:=by
 unfold tr12
 rw [d0 λ q=>hp.1 (by unfold tr12; rw [c7 q]),d0 λ q=>hp.2 (by unfold tr12; rw [d0 (λ u=>hp.1 (by unfold tr12; rw [c7 u])),c7 q]),d0]
 intro q
 refine h ?_
 rcases q with q | q | q | q | q
 ·exact .inr (.inl q)
 ·exact .inr (.inr (.inl q))
 ·exact .inr (.inr (.inr (.inr q)))
 ·exact .inl q
 ·exact .inr (.inr (.inr (.inl q)))
theorem qCs {q:Nat} (u:q=34\/q=39):∀ (j:Nat) {l:Ln},(∀ c∈l,qEq c)->((l.map tr12).take j=replicate j q ↔ l.take j=replicate j q)
 | 0,_,_=>⟨λ z=>rfl,λ z=>rfl⟩
 | j+1,[],_=>⟨λ h=>(by cases h),λ h=>(by cases h)⟩
 | j+1,c::l,h=>by
  have B:=qCs u j (l:=l) λ c hc=>h c (.tail _ hc)
  have hc:=qCt (d:=q) (h c (.head _)) (by rcases u with rfl | rfl <;> simp)
  rw [v4,dE,dE,gK,lF,lF,hc,B]
theorem E10.more {pre l':Ln} (h:E10 (pre++l')) (u:10 ∉ pre) (h2:pre≠[]):l'≠[]:=by
 rintro rfl
 rw [cN] at h
 rcases h with h | h
 ·exact h2 h
 ·exact u (fX h)
def Mar (k:Nat) (mode:Ln) (op:Nat) (l:Ln) (m:Mk):Option Mk :=
 if mode=[] then march .out l m else if mode=[35] then march .out (l.dropWhile (·≠10)) m else march (.txt (mode.headD 0) (mode.length - 1) (op - k)) l m
section
variable {k op n:Nat} {l ns mode:Ln} {m:Mk} {R:Ln×Nat}
theorem vI:Mar k [] op l m=march .out l m:=c7 rfl
theorem qHz:Mar k [35] op l m=march .out (l.dropWhile (·≠10)) m:=(zX1).trans (c7 rfl)
theorem q35 {q w:Nat} (B:q=34\/q=39):qG q w≠[35]:=λ e=>by
 have u:q::replicate w q=[35]:=e
 have:=(j5 u).1
 rcases B with rfl | rfl <;> cases this
theorem jL {q w:Nat} (u:q=34\/q=39):Mar k (qG q w) op l m=march (.txt q w (op - k)) l m:=by
 unfold Mar
 rw [d0 (λ e=>by cases e),d0 (q35 u)]
 have:(qG q w).length - 1=w:=by unfold qG; rw [dM]; rfl
 rw [this]; rfl
structure Ms (k:Nat) (l ns:Ln) (m:Mk):Prop where
 level:m.level=0
 lno:m.lno+(k+1)=ns.length
 gl:m.gl=glN k ns
 cont:m.cont=if l=[]/\ns.getLast? = some 1 then 1 else 0
theorem Ms.go {l':Ln} (h:Ms k l ns m) (u:l≠[]) (h2:l'≠[]):Ms k l' ns m:=⟨h.level,h.lno,h.gl,by rw [h.cont,d0 (λ q=>u q.1),d0 (λ q=>h2 q.1)]⟩
theorem Ms.c0 (h:Ms k l ns m) (u:l≠[]):m.cont=0:=by rw [h.cont,d0 (λ q=>u q.1)]
theorem Ms.line {l':Ln} (h:Ms k l ns m) (B:l≠[]):Ms k l' (ns++[0]) m.line:=by
 have u:=h.lno
 refine ⟨h.level,?_,?_,?_⟩
 ·show m.lno+1+(k+1)=_
  rw [g7,k8]; exact m_g2 u
 ·show (if m.level=0 then m.gl++[m.lno+1] else m.gl)=_
  rw [c7 h.level,h.gl,uQ (by exact u ▸ n8 (_+1) _),c7 rfl]
  congr 2; exact n_e7 u
 ·show m.cont=_
  rw [h.c0 B,d0]
  intro q
  have:=q.2
  rw [u8] at this; cases this
theorem Ms.step {l':Ln} {v c:Nat} (h:Ms k l ns m) (hv:v≠0) (hc:c=if l'=[]/\v=1 then 1 else 0):Ms k l' (ns++[v]) { m with lno:=m.lno+1,cont:=c }:=by
 have u:=h.lno
 refine ⟨h.level,?_,?_,?_⟩
 ·show m.lno+1+(k+1)=_
  rw [g7,k8]; exact m_g2 u
 ·show m.gl=_
  rw [h.gl,uQ (by exact u ▸ n8 (_+1) _),d0 hv,cN]
 ·show c=_
  rw [hc,u8]
  congr 1
  rw [dF]
theorem Ms.step2 {l':Ln} (h:Ms k l ns m) (u:l≠[]):Ms k l' (ns++[2]) { m with lno:=m.lno+1 }:=by
 have e:({ m with lno:=m.lno+1 }:Mk)={ m with lno:=m.lno+1,cont:=0 }:=by
  have:=h.c0 u
  cases m; simp only at this; subst this; rfl
 rw [e]
 exact h.step (by decide) (by rw [d0]; intro q; cases q.2)
theorem qNy (S:Ms k [] ns m) (hv:Vm mode) (J:mode≠[]->k<=op) (u:mode≠[35]/\(ns.getLast? = some 2 ↔ mode≠[])) :
  Mar k mode op [] m=some ⟨0,ns.length - (k+1),glN k ns,contF (ns,op)⟩:=by
 obtain ⟨a,b,c,d⟩:=S
 obtain ⟨lv,B,gl,O⟩:=m
 simp only at a b c d
 subst a c
 have D:B=ns.length - (k+1):=by exact Nat.eq_sub_of_add_eq b
 replace d:O=if ns.getLast? = some 1 then 1 else 0:=by
  by_cases q:ns.getLast? = some 1
  ·rw [c7 q]; rw [c7 ⟨trivial,q⟩] at d; exact d
  ·rw [d0 q]; rw [d0 λ z=>q z.2] at d; exact d
 cases hv with
 | com=>exact f8 rfl u.1
 | out =>
  rw [vI]
  show some (Mk.mk _ _ _ _)=_
  have T:¬ ns.getLast? = some 2:=λ q=>u.2.mp q rfl
  unfold contF
  rw [d0 T,← d,D]
 | txt q w L hw =>
  have h2:ns.getLast? = some 2:=u.2.mpr λ e=>by cases e
  have hk:=J λ e=>by cases e
  rw [jL L]
  show some (Mk.mk 0 B _ (if B=op - k+1 then 2 else 3))=_
  unfold contF
  rw [c7 h2,D]
  have e:(ns.length - (k+1)=op - k+1)=(op+2=ns.length):=by
   refine propext ⟨λ h=>by lia,λ h=>by lia⟩
  simp only [e]
theorem zQ {G:Option Mk} (T:some ⟨0,R.1.length - (k+1),glN k R.1,contF R⟩=G):∀ (n:Nat) {l mode ns:Ln} {op:Nat} {m:Mk},Vm mode->E10 l->(∀ c∈l,qEq c)->rd n l mode ns op=some R->(mode≠[]->k<=op)->(l=[]->mode≠[35]/\(ns.getLast? = some 2 ↔ mode≠[]))->Ms k l ns m ->
  Mar k mode op (l.map tr12) m=G
 | 0,_,_,_,_,_,_,_,_,h,_,_,_=>zN1 h
 | n+1,[],mode,ns,op,m,hv,hE,hP,h,L,Y,J=>by
  cases h
  exact (qNy J hv L (Y rfl)).trans T
 | n+1,c::l,mode,ns,op,m,hv,hE,hP,h,L,Y,J=>by
  have a1:=hP c (.head _)
  have D:∀ c∈l,qEq c:=λ c hc=>hP c (.tail _ hc)
  have B:c::l≠[]:=eA _ _
  have V:=J.lno
  have O:∀ {v:Nat} {mode':Ln},(v=2 ↔ mode'≠[])->mode'≠[35]->∀ l':Ln,l'=[]->mode'≠[35]/\((ns++[v]).getLast? = some 2 ↔ mode'≠[]):=λ h h' l' y=>⟨h',by rw [u8,dF]; exact h⟩
  have mo:∀ {pre l':Ln} {mode':Ln} {ns':Ln},c::l=pre++l'->10 ∉ pre->pre≠[]->(l'≠[]/\(l'=[]->mode'≠[35]/\(ns'.getLast? = some 2 ↔ mode'≠[]))):=λ e a b=>by
   have:=E10.more (e ▸ hE) a b
   exact ⟨this,λ q=>f8 q this⟩
  have bs:mode≠[35]->c=92->(∀ d l',march (if mode=[] then .out else .txt (mode.headD 0) (mode.length - 1) (op - k)) (92::d::l') m=march (if mode=[] then .out else .txt (mode.headD 0) (mode.length - 1) (op - k)) l' (if d=10 then (if mode=[] then { m with lno:=m.lno+1,cont:=if l'=[] then 1 else m.cont } else { m with lno:=m.lno+1 }) else m))->Mar k mode op ((c::l).map tr12) m=G:=by
   intro a2 hc hM
   subst hc
   cases l with
   | nil=>exact f8 hE.last (by decide)
   | cons d l =>
    rw [qXu a2] at h
    have a3:∀ l m,Mar k mode op l m=march (if mode=[] then .out else .txt (mode.headD 0) (mode.length - 1) (op - k)) l m:=λ l m=>by
     unfold Mar
     by_cases q:mode=[]
     ·rw [c7 q,c7 q]
     ·rw [d0 q,d0 q,d0 a2]
    rw [a3,v4,v4,tr_keep.2.2.2.2,hM]
    have hd:=qCt (d:=10) (D d (.head _)) (.inl rfl)
    rw [← a3]
    by_cases S:d=10
    ·rw [c7 (hd.mpr S)]
     rw [c7 S] at h
     by_cases q:mode=[]
     ·rw [d0 (λ z=>z q)] at h
      rw [c7 q]
      refine zQ T n hv hE.tail.tail (λ c hc=>D c (.tail _ hc)) h L (O (by rw [q]; decide) a2 _) (J.step (by decide) ?_)
      rw [J.c0 B]
      by_cases z:l=[]
      ·rw [z]; rfl
      ·rw [d0 (λ q=>z (List.map_eq_nil_iff.mp q)),d0 λ q=>z q.1]
     ·rw [c7 q] at h
      rw [d0 q]
      exact zQ T n hv hE.tail.tail (λ c hc=>D c (.tail _ hc)) h L (O (by simp [q]) a2 _) (J.step2 B)
    ·rw [d0 (λ z=>S (hd.mp z))]
     rw [d0 S] at h
     obtain ⟨a,b⟩:=mo (pre:=[92,d]) (l':=l) (mode':=mode) (ns':=ns) rfl (by simp; exact λ q=>S q.symm) (by simp)
     exact zQ T n hv hE.tail.tail (λ c hc=>D c (.tail _ hc)) h L b (J.go B a)
  have one:c≠10->∀ {mode':Ln},(l≠[]/\(l=[]->mode'≠[35]/\(ns.getLast? = some 2 ↔ mode'≠[]))):=λ hc=>mo (pre:=[c]) rfl (by simp; exact λ q=>hc q.symm) (by simp)
  cases hv with
  | com =>
   rw [qNp] at h
   rw [qHz,v4,fR]
   by_cases hc:c=10
   ·subst hc
    rw [c7 rfl] at h
    rw [zX1,tr_keep.1,mout,zX1,c7 rfl]
    have:=zQ T n .out hE.tail D h (λ q=>f8 rfl q) (O (by decide) (by decide) _) (J.line B)
    rwa [vI] at this
   ·rw [d0 hc] at h
    rw [c7 (by simpa using λ z=>hc ((qCt a1 (.inl rfl)).mp z))]
    obtain ⟨a,b⟩:=one hc (mode':=[35])
    have:=zQ T n .com hE.tail D h L b (J.go B a)
    rwa [qHz] at this
  | out =>
   by_cases hb:c=92
   ·refine bs (by decide) hb λ d l'=>?_
    rw [c7 rfl,zNi,c7 rfl]
   rw [qAd hb] at h
   rw [vI]
   have ih:∀ {l' mode' ns' op' m'},(l' <:+ l)->Vm mode'->rd n l' mode' ns' op'=some R->(mode'≠[]->k<=op')->(l'=[]->mode'≠[35]/\(ns'.getLast? = some 2 ↔ mode'≠[]))->Ms k l' ns' m'->Mar k mode' op' (l'.map tr12) m'=G:=λ hs hv h L Y J=>by
    obtain ⟨t,ht⟩:=hs
    have a7:=hE.tail
    rw [← ht] at a7 D
    refine zQ T n hv ?_ (λ c hc=>D c (w7 _ hc)) h L Y J
    have:=a7.drop (k:=t.length)
    rwa [oV] at this
   by_cases u:c=39\/c=34
   ·have X:c≠10:=by rcases u with rfl | rfl <;> decide
    have ht:tr12 c=c:=by rcases u with rfl | rfl <;> decide
    rw [c7 u] at h
    rw [v4,ht]
    have e:march .out (c::l.map tr12) m=if (c::l.map tr12).take 3=[c,c,c] then march (.txt c 2 m.lno) ((l.map tr12).drop 2) m else march (.txt c 0 m.lno) (l.map tr12) m:=by
     rcases u with rfl | rfl <;> (rw [mout,zX1,zX1,zX1,zX1,c7 (by decide)])
    rw [e]
    have h3:=qCs u.symm 2 D
    have e3:(c::l.map tr12).take 3=[c,c,c] ↔ (c::l).take 3=[c,c,c]:=by
     show c::(l.map tr12).take 2=c::replicate 2 c ↔ c::l.take 2=c::replicate 2 c
     rw [lF,lF,h3]
    have hf:m.lno=ns.length - 1 - k:=by exact m_g3 V
    by_cases q3:(c::l).take 3=[c,c,c]
    ·rw [c7 q3] at h
     rw [c7 (e3.mpr q3),← pA]
     have hs:c::l=[c,c,c]++l.drop 2:=by
      have:=v0 3 (c::l)
      rw [q3] at this
      exact this.symm
     obtain ⟨a,b⟩:=mo (mode':=[c,c,c]) (ns':=ns) hs (by simp; exact λ q=>X q.symm) (by simp)
     have:=ih (mW 2 l) (.txt c 2 u.symm (.inr rfl)) h (λ y=>by exact m_g4 V) b (J.go B a)
     rwa [jL u.symm,← hf] at this
    ·rw [d0 q3] at h
     rw [d0 λ z=>q3 (e3.mp z)]
     obtain ⟨a,b⟩:=one X (mode':=[c])
     have:=ih (mD l) (.txt c 0 u.symm (.inl rfl)) h (λ y=>by exact m_g4 V) b (J.go B a)
     rwa [jL u.symm,← hf] at this
   ·rw [d0 u] at h
    by_cases h5:c=35
    ·subst h5
     rw [c7 rfl] at h
     obtain ⟨a,b⟩:=one (by decide) (mode':=[35])
     rw [v4,tr_keep.2.2.2.1,mout,zX1,zX1,zX1,zX1,zX1,c7 rfl,c7]
     ·have:=ih (mD l) .com h (λ y=>by exact n_e8 V) b (J.go B a)
      rwa [qHz] at this
     ·have:=hE.tail.resolve_left a
      have:=List.mem_map_of_mem (f:=tr12) (fX this)
      rwa [tr_keep.1] at this
    ·rw [d0 h5] at h
     by_cases hc:c=10
     ·subst hc
      rw [c7 rfl] at h
      rw [v4,tr_keep.1,mout,zX1,c7 rfl]
      have:=ih (mD l) .out h (λ q=>f8 rfl q) (O (by decide) (by decide) _) (J.line B)
      rwa [vI] at this
     ·rw [d0 hc] at h
      rw [v4,zCt a1,mout,c7 rfl]
      ·obtain ⟨a,b⟩:=one hc (mode':=[])
       have:=ih (mD l) .out h (λ q=>f8 rfl q) b (J.go B a)
       rwa [vI] at this
      ·rintro (z | z | z | z | z)
       ·exact hc z
       ·exact u (.inr z)
       ·exact u (.inl z)
       ·exact h5 z
       ·exact hb z
  | txt q w u hw =>
   have a9:(qG q w).length=w+1:=dM
   have U:qG q w≠[]:=λ h=>by cases h
   by_cases hb:c=92
   ·refine bs (q35 u) hb λ d l'=>?_
    have e1:(qG q w).headD 0=q:=rfl
    rw [d0 U,a9,e1,lP,mtxt,zX1,d0,zX1,c7 rfl]
    ·show march (.txt q w (op - k)) l' (if d=10 then { m with lno:=m.lno+1 } else m)=_
     rw [d0 U]
    ·intro z
     have z':92::(d::l').take w=q::replicate w q:=z
     have:=(j5 z').1
     rcases u with rfl | rfl <;> cases this
   rw [qDh u hb] at h
   rw [jL u,v4,mtxt]
   have hk:=L U
   have e3:(tr12 c::l.map tr12).take (w+1)=qG q w ↔ (c::l).take (w+1)=qG q w:=qCs u (w+1) hP
   by_cases hx:tr12 c=120
   ·have nq:c≠q:=by
     rintro rfl
     rcases u with rfl | rfl <;> cases hx
    have X:c≠10:=by rintro rfl; cases hx
    rw [d0 (show ¬ (c::l).take (w+1)=qG q w from λ z=>nq (j5 (show c::l.take w=q::replicate w q from z)).1),d0 X] at h
    rw [c7 hx]
    obtain ⟨a,b⟩:=one X (mode':=qG q w)
    have:=zQ T n (.txt q w u hw) hE.tail D h L b (J.go B a)
    rwa [jL u] at this
   rw [d0 hx]
   by_cases h3:(c::l).take (w+1)=qG q w
   ·rw [c7 h3] at h
    rw [c7 (e3.mpr h3),← pA]
    have hs:c::l=qG q w++l.drop w:=by
     have:=v0 (w+1) (c::l)
     rw [h3] at this
     exact this.symm
    obtain ⟨a,b⟩:=mo (mode':=[]) (ns':=ns) hs (λ z=>by have:=gQ z; rcases u with rfl | rfl <;> cases this) U
    have:=zQ T n .out hE.tail.drop (λ c hc=>D c (eK hc)) h (λ q=>f8 rfl q) b (J.go B a)
    rwa [vI] at this
   rw [d0 h3] at h
   rw [d0 λ z=>h3 (e3.mp z)]
   by_cases S:c=10
   ·subst S
    rw [c7 rfl] at h
    rw [tr_keep.1,c7 rfl]
    by_cases Y:w=0
    ·rw [c7 Y] at h ⊢
     have:=zQ T n .out hE.tail D h (λ q=>f8 rfl q) (O (by decide) (by decide) _) (J.line B)
     rwa [vI] at this
    ·rw [d0 Y] at h ⊢
     have:=zQ T n (.txt q w u hw) hE.tail D h L (O (by simp [U]) (q35 u) _) (J.step2 B)
     rwa [jL u] at this
   ·rw [d0 S] at h
    rw [d0 λ z=>S ((qCt a1 (.inl rfl)).mp z),d0 λ z=>hb ((qCt a1 (.inr (.inr (.inr (.inr rfl))))).mp z)]
    obtain ⟨a,b⟩:=one S (mode':=qG q w)
    have:=zQ T n (.txt q w u hw) hE.tail D h L b (J.go B a)
    rwa [jL u] at this
end
end Mine.Lake.L09
namespace Mine.Lake.Tx
open PySem PySem.Sre Mine.Lake.Re
def qZn (text:Array Nat) (lim:Nat) (ws:List (Ln)) (p:Nat):Option Nat:=zX text lim (p+blk text (lim - p) p) ws
structure Win (text:Array Nat) (lim b:Nat) (l:Ln) (t:Nat):Prop where
 at':∀ i,i<=l.length->text.getD (b+i) 0=(l++[t]).getD i 0
 le:b+l.length+1<=lim
section
variable {text:Array Nat} {lim b t:Nat} {l:Ln} {ws:List (Ln)}
def leadB:Ln->Nat
 | []=>0
 | c::r=>if qL c=true then leadB r+1 else 0
theorem leadB_c {c:Nat} {r:Ln}:leadB (c::r)=if qL c=true then leadB r+1 else 0:=rfl
theorem uK:∀ l:Ln,leadB l<=l.length
 | []=>d7 _
 | c::r=>by show (if qL c=true then leadB r+1 else 0)<=_; split; exact u9 (uK r); exact m9 _
theorem qRd (D:qL t=false):∀ (l:Ln) (b n:Nat),(∀ i,i<=l.length->text.getD (b+i) 0=(l++[t]).getD i 0)->l.length+1<=n->blk text n b=leadB l
 | [],b,n+1,h,_=>by
  show (if qL (text.getD b 0)=true then blk text n (b+1)+1 else 0)=0
  have:=h 0 (d7 _)
  simp only [iA,nE] at this
  rw [this]
  rw [d0 (by show ¬ qL t=true; rw [D]; decide)]
 | c::r,b,n+1,h,hn=>by
  have u:=h 0 (m9 _)
  simp only [iA] at u
  have B:text.getD b 0=c:=by rw [u]; simp [m3]
  have J:=qRd D r (b+1) n (λ i hi=>by
   have:=h (i+1) (by simpa using hi)
   rw [show b+1+i=b+(i+1) by exact l9 _ 1 _,this]
   simp [m3]) (by simpa using hn)
  show (if qL (text.getD b 0)=true then blk text n (b+1)+1 else 0)=if qL c=true then leadB r+1 else 0
  rw [B,J]
noncomputable def kI:Ln->Ln->Bool
 | [],_=>true
 | d::r,c::l=>c == d && kI r l
 | _::_,[]=>false
theorem uN:∀ {w l:Ln},kI w l=true->w.length<=l.length
 | [],_,_=>m9 _
 | d::r,c::l,h=>by
  have h:(c == d && kI r l)=true:=h
  exact u9 (uN (Bool.and_eq_true_iff.mp h).2)
 | _::_,[],h=>zF1 h
theorem qQk:∀ (w l:Ln) (b:Nat),t ∉ w->(∀ i,i<=l.length->text.getD (b+i) 0=(l++[t]).getD i 0)->b+l.length+1<=lim->vJ text lim b w=kI w l
 | [],l,b,_,_,_=>rfl
 | d::r,[],b,hw,h,hl=>by
  have u:=h 0 (d7 _)
  simp only [iA,nE] at u
  have B:text.getD b 0=t:=u
  have:t≠d:=λ q=>hw (q ▸ .head _)
  show (decide (b < lim) && text.getD b 0 == d && vJ text lim (b+1) r)=false
  rw [B,beq_eq_false_iff_ne.mpr this,iD,Bool.false_and]
 | d::r,c::l,b,hw,h,hl=>by
  have u:=h 0 (m9 _)
  simp only [iA] at u
  have B:text.getD b 0=c:=by rw [u]; simp [m3]
  have D:=qQk r l (b+1) (λ q=>hw (.tail _ q)) (λ i hi=>by
   have:=h (i+1) (by simpa using hi)
   rw [show b+1+i=b+(i+1) by lia,this]
   simp [m3]) (by simp at hl; lia)
  have:decide (b < lim)=true:=by simp at hl ⊢; lia
  show (decide (b < lim) && text.getD b 0 == d && vJ text lim (b+1) r)=(c == d && kI r l)
  rw [B,D,this,pB]
def yA (l:Ln) (t i:Nat):List (Ln)->Option Nat
 | []=>none
 | w::r=>if kI w (l.drop i) && (isWordUni ((l++[t]).getD (i+w.length - 1) 0) != isWordUni ((l++[t]).getD (i+w.length) 0)) then some (i+w.length) else yA l t i r
theorem qJj (W:Win text lim b l t) {i:Nat} (hi:i<=l.length):∀ (ws:List (Ln)),(∀ w∈ws,t ∉ w/\w≠[])->zX text lim (b+i) ws=(yA l t i ws).map (b + ·)
 | [],_=>rfl
 | w::r,h=>by
  obtain ⟨X,h2⟩:=h w (.head _)
  have T:=qQk (text:=text) (lim:=lim) (t:=t) w (l.drop i) (b+i) X (λ j hj=>by
   have J:i+j<=l.length:=by simp at hj; exact (eZ hi).mp hj
   rw [show b+i+j=b+(i+j) by exact t6 _ _ _,W.at' _ J]
   have e:l.drop i++[t]=(l++[t]).drop i:=by rw [lA hi]
   rw [e]
   simp [m3,eB]) (by have:=W.le; simp; exact n_c1 hi this)
  show (if (vJ text lim (b+i) w && Re.bound text lim (b+i+w.length))=true then some (b+i+w.length) else zX text lim (b+i) r)=fU (b + ·) (if (kI w (l.drop i) && (isWordUni ((l++[t]).getD (i+w.length - 1) 0) != isWordUni ((l++[t]).getD (i+w.length) 0)))=true then some (i+w.length) else yA l t i r)
  rw [T,qJj W hi r λ w hw=>h w (.tail _ hw)]
  cases hp:kI w (l.drop i) with
  | false=>simp
  | true =>
   have L:=uN hp
   have B:0 < w.length:=List.length_pos_iff.mpr h2
   have u:i+w.length<=l.length:=by simp at L; lia
   have D:=W.le
   have e1:text.getD (b+i+w.length - 1) 0=(l++[t]).getD (i+w.length - 1) 0:=by
    rw [show b+i+w.length - 1=b+(i+w.length - 1) by exact n_c2 B]; exact W.at' _ (by exact d5 (lO (_+_) 1) u)
   have e2:text.getD (b+i+w.length) 0=(l++[t]).getD (i+w.length) 0:=by
    rw [show b+i+w.length=b+(i+w.length) by exact t6 _ _ _]; exact W.at' _ u
   have U:Re.bound text lim (b+i+w.length)=(isWordUni ((l++[t]).getD (i+w.length - 1) 0) != isWordUni ((l++[t]).getD (i+w.length) 0)):=by
    unfold Re.bound
    rw [e1,e2]
    have V:(lim != 0)=true:=by simp; exact Nat.ne_zero_of_lt D
    have S:decide (b+i+w.length > 0)=true:=by simp; exact Nat.add_pos_right (_+_) B
    have O:decide (b+i+w.length < lim)=true:=by simp; lia
    rw [V,S,O]; simp
   rw [U]
   simp only [pB]
   split
   ·rw [show b+i+w.length=b+(i+w.length) by exact t6 _ _ _]; rfl
   ·rfl
theorem zCn {l:Ln} {t i:Nat} {w:Ln} {r:List (Ln)}:yA l t i (w::r)=if kI w (l.drop i) && (isWordUni ((l++[t]).getD (i+w.length - 1) 0) != isWordUni ((l++[t]).getD (i+w.length) 0)) then some (i+w.length) else yA l t i r:=rfl
def qKq (ws:List (Ln)) (l:Ln) (t:Nat):Option Nat:=yA l t (leadB l) ws
theorem qZm (W:Win text lim b l t) (u:qL t=false) (hw:∀ w∈ws,t ∉ w/\w≠[]):qZn text lim ws b=(qKq ws l t).map (b + ·):=by
 unfold qZn qKq
 rw [qRd u l b (lim - b) W.at' (by have:=W.le; exact nW this)]
 exact qJj W (uK l) ws hw
set_option tactic.hygienic true in
theorem qJk {i e:Nat}:∀ {ws:List (Ln)},yA l t i ws=some e->∃ w∈ws,e=i+w.length/\i+w.length<=max i l.length
 | [],h=>zN1 h
 | w::r,h=>by
  change (if _ then some (i+w.length) else yA l t i r)=some e at h
  split at h
  ·rename_i hc
   cases h
   simp only [d8] at hc
   have:=uN hc.1
   exact ⟨w,.head _,rfl,by simp at this; exact n_c3 this⟩
  ·obtain ⟨B,u,h2⟩:=qJk h
   exact ⟨B,.tail _ u,h2⟩
theorem qZb {e:Nat} (h:qKq ws l t=some e):∃ w∈ws,w.length<=e/\e<=l.length:=by
 obtain ⟨w,u,h2,h3⟩:=qJk h
 exact ⟨w,u,by simp [h2],by have:=uK l; simp_all⟩
end
noncomputable def flat (ls:List (Ln)):Ln:=(ls.map (·++[10])).flatten
def stA (ls:List (Ln)) (k:Nat):Nat:=(flat (ls.take k)).length
def Lines (ls:List (Ln)):Prop:=∀ l∈ls,10 ∉ l
section
variable {ls:List (Ln)} {k j:Nat}
theorem flat_append (a b:List (Ln)):flat (a++b)=flat a++flat b:=by simp [flat]
theorem flat_cons (l:Ln) (r:List (Ln)):flat (l::r)=l++10::flat r:=by simp [flat]
theorem flat_nil:flat []=[]:=rfl
theorem stA_zero:stA ls 0=0:=by simp [stA,flat]
theorem zA (h:k < ls.length):stA ls (k+1)=stA ls k+ls[k].length+1:=by
 unfold stA
 rw [List.take_succ_eq_append_getElem h,flat_append]
 simp [flat]; rfl
theorem yY:stA ls ls.length=(flat ls).length:=by simp [stA]
theorem qMm (h:ls.length<=k):stA ls k=(flat ls).length:=by unfold stA; rw [t7 h]
theorem zD:∀ {a b:Nat},a<=b->stA ls a<=stA ls b:=by
 intro a b h
 induction b with
 | zero =>
  have:a=0:=Nat.le_zero.mp h
  subst this; exact d7 _
 | succ b D =>
  by_cases B:a=b+1
  ·subst B; exact d7 _
  ·refine d5 (D (by lia)) ?_
   by_cases u:b < ls.length
   ·rw [zA u]; exact n_c4
   ·rw [qMm (by exact gB u),qMm (by exact Nat.le.step (gB u))]; exact d7 _
theorem zKs {a b:Nat} (h:a < b) (u:b<=ls.length):stA ls a < stA ls b:=by
 refine m0 ?_ (zD (a:=a+1) h)
 rw [zA (by exact d5 h u)]; exact n_c5
theorem stA_le:stA ls k<=(flat ls).length:=by
 by_cases h:k<=ls.length
 ·rw [← yY]; exact zD h
 ·rw [qMm (by exact eW h)]; exact d7 _
theorem flat_split (h:k < ls.length):flat ls=flat (ls.take k)++(ls[k]++10::flat (ls.drop (k+1))):=by
 have e:ls=ls.take k++ls[k]::ls.drop (k+1):=by rw [List.getElem_cons_drop_succ_eq_drop h,v0]
 rw [← flat_cons,← flat_append,← e]
theorem uS (h:k < ls.length) {i:Nat} (hi:i<=ls[k].length):(flat ls)[stA ls k+i]? = (ls[k]++[10])[i]?:=by
 rw [flat_split h]
 have e:stA ls k=(flat (ls.take k)).length:=rfl
 rw [e,eJ (by exact n4 _ _)]
 rw [show (flat (ls.take k)).length+i - (flat (ls.take k)).length=i by simp]
 rw [show ls[k]++10::flat (ls.drop (k+1))=(ls[k]++[10])++flat (ls.drop (k+1)) by simp]
 rw [t9 (by simp; exact m2 hi)]
theorem zKj (h:k < ls.length) {lim:Nat} (u:stA ls (k+1)<=lim):Win (flat ls).toArray lim (stA ls k) ls[k] 10 :=
 ⟨λ i hi=>by
  have:=uS h hi
  simp only [lL,iJ,m3,this],by rw [zA h] at u; exact u⟩
theorem qXx:∀ {j:Nat},j < (flat ls).length->∃ k,∃ h:k < ls.length,∃ i,i<=ls[k].length/\j=stA ls k+i:=by
 intro j hj
 have:∀ n,n<=ls.length->j < stA ls n->∃ k,∃ h:k < ls.length,∃ i,i<=ls[k].length/\j=stA ls k+i:=by
  intro n
  induction n with
  | zero=>intro _ h; rw [stA_zero] at h; lia
  | succ n B =>
   intro hn h
   by_cases u:j < stA ls n
   ·exact B (by exact n1 hn) u
   ·rw [zA (by exact hn)] at h
    exact ⟨n,by exact hn,j - stA ls n,by exact n_c6 h,by simp_all⟩
 exact this ls.length (d7 _) (by rw [yY]; exact hj)
theorem qAi (hL:Lines ls):(flat ls)[j]? = some 10 ↔ ∃ r,r < ls.length/\j+1=stA ls (r+1):=by
 constructor
 ·intro h
  obtain ⟨k,hk,i,hi,rfl⟩:=qXx (ls:=ls) (j:=j) (by
   rcases nB j (flat ls).length with q | q
   ·exact q
   ·rw [eQ q] at h; cases h)
  rw [uS hk hi] at h
  refine ⟨k,hk,?_⟩
  rw [zA hk]
  by_cases u:i < ls[k].length
  ·rw [t9 u] at h
   exact f8 (lB h) (hL _ (mZ hk))
  ·exact n_c7 hi u
 ·rintro ⟨r,hr,e⟩
  rw [zA hr] at e
  have:j=stA ls r+ls[r].length:=by simp_all
  rw [this,uS hr (d7 _)]
  simp
theorem qFw (hL:Lines ls) {q:Nat}:jA (flat ls).toArray q=true ↔ ∃ r,r<=ls.length/\q=stA ls r:=by
 unfold jA
 simp only [lS,j8,lL,iJ]
 constructor
 ·rintro (h | h)
  ·subst h; exact ⟨0,m9 _,stA_zero.symm⟩
  ·cases u:(flat ls)[q - 1]? with
   | none=>rw [u] at h; cases h
   | some v =>
    rw [u] at h
    have hv:v=10:=h
    subst hv
    obtain ⟨r,hr,e⟩:=(qAi hL).mp u
    by_cases B:q=0
    ·subst B; exact ⟨0,m9 _,stA_zero.symm⟩
    ·exact ⟨r+1,hr,by exact n_c8 e B⟩
 ·rintro ⟨r,hr,rfl⟩
  cases r with
  | zero=>left; exact stA_zero
  | succ r =>
   right
   have D:stA ls (r+1)=stA ls r+ls[r].length+1:=zA hr
   rw [(qAi hL).mpr ⟨r,hr,by exact n_c9 D⟩]
   rfl
end
def zC (ls:List (Ln)) (k:Nat):Option Nat:=(ls[k]?).bind λ l=>qKq words1 l 10
def zE (ls:List (Ln)):Nat->Nat->Option (Nat×Nat)
 | 0,_=>none
 | n+1,a=>match zC ls a with
  | some e=>some (a,e)
  | none=>zE ls n (a+1)
theorem qFn:∀ w∈words1,(10 ∉ w/\w≠[])/\3<=w.length/\40 ∉ w/\35 ∉ w:=by
 have:words1.all (λ w=>!w.contains 10 && !w.isEmpty && decide (3<=w.length) && !w.contains 40 && !w.contains 35)=true:=by decide +kernel
 intro w hw
 have:=List.all_eq_true.mp this w hw
 simp only [d8,dO,j4,fY,eV,mB] at this
 obtain ⟨⟨⟨⟨u,h2⟩,h3⟩,h4⟩,h5⟩:=this
 exact ⟨⟨u,h2⟩,h3,h4,h5⟩
section
variable {ls:List (Ln)} {k a:Nat}
theorem qAw (hL:Lines ls) (h:k < ls.length) {lim:Nat} (u:stA ls (k+1)<=lim):qX (flat ls).toArray lim words1 (stA ls k)=(zC ls k).map (stA ls k + ·):=by
 unfold qX
 rw [c7 ((qFw hL).mpr ⟨k,by exact n1 h,rfl⟩)]
 have:=qZm (zKj h u) (by decide) (λ w hw=>(qFn w hw).1)
 unfold zC
 rw [n3 h]
 exact this
theorem qNx (hL:Lines ls) {q lim:Nat} (u:∀ r,r<=ls.length->q≠stA ls r):qX (flat ls).toArray lim words1 q=none:=by
 unfold qX
 rw [d0]
 intro h
 obtain ⟨r,hr,e⟩:=(qFw hL).mp h
 exact u r hr e
theorem qEa {text:Array Nat} {lim:Nat} {ws:List (Ln)} {q e:Nat} (B:qX text lim ws q=some e):∀ {n s:Nat},s<=q->q<=s+n->(∀ u,s<=u->u < q->qX text lim ws u=none)->jP text lim ws n s=some (q,e)
 | 0,s,h1,h2,_=>by
  have:s=q:=by exact fD h1 h2
  subst this
  show (qX text lim ws s).map _=_; rw [B]; rfl
 | n+1,s,h1,h2,h3=>by
  show (match qX text lim ws s with | some e=>some (s,e) | none=>jP text lim ws n (s+1))=_
  by_cases hs:s=q
  ·subst hs; rw [B]
  ·rw [h3 s (d7 _) (by exact cC h1 hs)]
   exact qEa B (by lia) (by lia) λ u a b=>h3 u (by exact n1 a) b
theorem first_none {text:Array Nat} {lim:Nat} {ws:List (Ln)}:∀ {n s:Nat},(∀ u,s<=u->u<=s+n->qX text lim ws u=none)->jP text lim ws n s=none
 | 0,s,h=>by show (qX text lim ws s).map _=none; rw [h s (d7 _) (by simp)]; rfl
 | n+1,s,h=>by
  show (match qX text lim ws s with | some e=>some (s,e) | none=>jP text lim ws n (s+1))=none
  rw [h s (d7 _) (by simp)]
  exact first_none λ u a b=>h u (by exact n1 a) (by lia)
theorem xY:∀ {n a r e:Nat},zE ls n a=some (r,e)->a<=r/\r < a+n/\zC ls r=some e/\∀ i,a<=i->i < r->zC ls i=none
 | 0,a,r,e,h=>zN1 h
 | n+1,a,r,e,h=>by
  have h:(match zC ls a with | some e=>some (a,e) | none=>zE ls n (a+1))=some (r,e):=h
  cases u:zC ls a with
  | some J =>
   rw [u] at h
   cases h
   exact ⟨d7 _,by exact n_d0,u,λ i a b=>by lia⟩
  | none =>
   rw [u] at h
   obtain ⟨B,h2,h3,h4⟩:=xY h
   exact ⟨by exact n1 B,by lia,h3,λ i D b=>by
    by_cases hi:i=a
    ·subst hi; exact u
    ·exact h4 i (by exact cC D (eO hi)) b⟩
theorem qCj:∀ {n a:Nat},zE ls n a=none->∀ i,a<=i->i < a+n->zC ls i=none
 | 0,a,_,i,h1,h2=>by lia
 | n+1,a,h,i,h1,h2=>by
  have h:(match zC ls a with | some e=>some (a,e) | none=>zE ls n (a+1))=none:=h
  cases u:zC ls a with
  | some B=>rw [u] at h; cases h
  | none =>
   rw [u] at h
   by_cases hi:i=a
   ·subst hi; exact u
   ·exact qCj h i (by exact cC h1 (eO hi)) (by lia)
theorem hJ {r e:Nat} (h:zC ls r=some e):∃ hr:r < ls.length,3<=e/\e<=ls[r].length:=by
 unfold zC at h
 by_cases hr:r < ls.length
 ·rw [n3 hr] at h
  obtain ⟨w,u,h2,h3⟩:=qZb (show qKq words1 ls[r] 10=some e from h)
  exact ⟨hr,by have:=(qFn w u).2.1; exact d5 this h2,h3⟩
 ·rw [eQ (by exact gB hr)] at h; cases h
set_option tactic.hygienic true in
theorem jJ (hL:Lines ls) {p:Nat} (hk:k<=ls.length) (O:a<=k) (hp:p<=stA ls a) (hn:∀ r,r < a->stA ls r < p) :
  zM (flat ls).toArray words1 p (stA ls k)=(zE ls (k - a) a).map λ x=>(stA ls x.1,stA ls x.1+x.2):=by
 have u:∀ q,p<=q->(∀ r,a<=r->r < k->q=stA ls r->zC ls r=none)->q < stA ls k->qX (flat ls).toArray (stA ls k) words1 q=none:=by
  intro q L h2 h3
  by_cases T:∃ r,r<=ls.length/\q=stA ls r
  ·obtain ⟨r,hr,rfl⟩:=T
   have X:a<=r:=by
    refine Nat.not_lt.mp λ h=>?_
    have:=hn r h; lia
   have D:r < k:=by
    refine Nat.not_le.mp λ h=>?_
    have:=zD (ls:=ls) h; exact Nat.not_lt.mpr this h3
   rw [qAw hL (by exact d5 D hk) (zD (by exact D)),h2 r X D rfl]; rfl
  ·exact qNx hL λ r hr e=>T ⟨r,hr,e⟩
 cases hw:zE ls (k - a) a with
 | none =>
  have J:=qCj hw
  unfold zM
  split
  ·rfl
  ·rename_i hs
   refine first_none λ q L h2=>u q L (λ r ha hr z=>J r ha (by exact m0 hr n_la)) (by exact n_d1 hs h2)
 | some x =>
  obtain ⟨r,e⟩:=x
  obtain ⟨L,h2,h3,h4⟩:=xY hw
  obtain ⟨hr,h5,U⟩:=hJ h3
  have B:stA ls (r+1)<=stA ls k:=zD (by exact r6 O ▸ h2)
  rw [zA hr] at B
  have S:p<=stA ls r:=d5 hp (zD L)
  unfold zM
  refine (d0 (by exact m_d5 h5 U B S)).trans ?_
  refine qEa (q:=stA ls r) (by rw [qAw hL hr (zD (by exact r6 O ▸ h2)),h3]; rfl) S (by exact n_d2 h5 U B) λ q' Y V=>u q' Y (λ i ha hi e=>?_) (by exact m_d6 B V)
  subst e
  refine h4 i ha (Nat.not_le.mp λ h=>?_)
  have:=zD (ls:=ls) h; exact Nat.not_lt.mpr this V
end
end Mine.Lake.Tx
namespace Mine.Lake.Tx
open PySem PySem.Sre Mine.Lake.Re StrLaws PySem.Builtin PySem.Builtin.Str
theorem qGf (x y:Str) (hi:Nat):(lastOccurrence x y 0 hi=none/\∀ i,¬ At x y hi i)\/∃ i,lastOccurrence x y 0 hi=some i/\At x y hi i/\∀ k,i < k->¬ At x y hi k:=by
 rw [last_eq]
 have u:=last_run x y hi (m4 0 (hi+1 - 0)) [] none (λ q h=>nomatch h) (λ q h=>nomatch h) (by simpa using mX (s:=0) (n:=hi+1 - 0))
 have D:∀ i,At x y hi i->i∈[]++m4 0 (hi+1 - 0):=λ i B=>by have:=B.1; simp [List.mem_range'] <;> lia
 cases hr:(forIn (m4 0 (hi+1 - 0)) none (lastBody x y hi)).run with
 | none=>rw [hr] at u; exact .inl ⟨rfl,λ i B=>u i (D i B) B⟩
 | some a=>rw [hr] at u; exact .inr ⟨a,rfl,u.1,λ k hk B=>u.2 k (D k B) hk B⟩
theorem qQd {x y:Str} {hi i:Nat} (h:At x y hi i) (u:∀ k,i < k->¬ At x y hi k):lastOccurrence x y 0 hi=some i:=by
 rcases qGf x y hi with ⟨_,q⟩ | ⟨j,e,q,r⟩
 ·exact f8 h (q i)
 ·rw [e]
  rcases Nat.lt_trichotomy i j with a | a | a
  ·exact f8 q (u j a)
  ·rw [a]
  ·exact f8 h (r i a)
theorem qGg {x y:Str} {hi:Nat} (h:∀ i,¬ At x y hi i):lastOccurrence x y 0 hi=none:=by
 rcases qGf x y hi with ⟨e,_⟩ | ⟨j,_,q,_⟩
 ·exact e
 ·exact f8 q (h j)
theorem zNc:("\n" : Str)=⟨#[10]⟩:=by decide
theorem zIw:(":\n" : Str)=⟨#[58,10]⟩:=by decide
theorem at_nl {x:Str} {hi i:Nat} (u:hi<=x.cps.size):At x "\n" hi i ↔ i+1<=hi/\x.cps[i]? = some 10:=by
 unfold At subAt
 rw [zNc]
 show (i+1<=hi/\(x.cps.extract i (i+1) == #[10])=true) ↔ _
 refine and_congr_right λ h=>?_
 rw [j8]
 have hi:i < x.cps.size:=m0 h u
 have e:x.cps.extract i (i+1) = #[x.cps[i]'hi]:=by
  apply Array.ext
  ·rw [Array.size_extract,dT hi]; exact v3 i 1
  ·intro j B h2
   have hj:j=0:=Nat.lt_one_iff.mp h2
   subst hj
   rw [nZ]; rfl
 rw [e,gH hi]
 simp
theorem zOl {x:Str} {hi i:Nat} (u:hi<=x.cps.size):At x ":\n" hi i ↔ i+2<=hi/\x.cps[i]? = some 58/\x.cps[i+1]? = some 10:=by
 unfold At subAt
 rw [zIw]
 show (i+2<=hi/\(x.cps.extract i (i+2) == #[58,10])=true) ↔ _
 refine and_congr_right λ h=>?_
 rw [j8]
 have hi1:i+1 < x.cps.size:=m0 h u
 have hi:i < x.cps.size:=Nat.lt_of_succ_lt hi1
 have e:x.cps.extract i (i+2) = #[x.cps[i]'hi,x.cps[i+1]'hi1]:=by
  apply Array.ext
  ·rw [Array.size_extract,dT hi1]; exact v3 i 2
  ·intro j B h2
   rw [nZ]
   match j,h2 with
   | 0,_=>rfl
   | 1,_=>rfl
 rw [e,gH hi,gH hi1]
 simp
noncomputable def colonAt (ls:List (Ln)) (k:Nat):Bool:=(ls[k]?).bind (·.getLast?) == some 58
def jF (ls:List (Ln)):Nat->Option Nat
 | 0=>none
 | k+1=>if colonAt ls k=true then some k else jF ls k
set_option tactic.hygienic true in
theorem jE {ls:List (Ln)}:∀ {k j:Nat},jF ls k=some j->j < k/\colonAt ls j=true/\∀ r,j < r->r < k->colonAt ls r=false
 | 0,j,h=>zN1 h
 | k+1,j,h=>by
  change (if colonAt ls k=true then some k else jF ls k)=_ at h
  split at h
  ·rename_i hc
   cases h
   exact ⟨by exact m2 Nat.le.refl,hc,λ r a b=>by lia⟩
  ·rename_i hc
   obtain ⟨u,h2,h3⟩:=jE h
   exact ⟨by exact j6 u,h2,λ r a b=>by
    by_cases hr:r=k
    ·subst hr; simpa using hc
    ·exact h3 r a (by exact m_d7 b hr)⟩
set_option tactic.hygienic true in
theorem qGr {ls:List (Ln)}:∀ {k:Nat},jF ls k=none->∀ r,r < k->colonAt ls r=false
 | 0,_,r,a=>by lia
 | k+1,h,r,a=>by
  change (if colonAt ls k=true then some k else jF ls k)=_ at h
  split at h
  ·cases h
  ·rename_i hc
   by_cases hr:r=k
   ·subst hr; simpa using hc
   ·exact qGr h r (by exact m_d7 a hr)
theorem yQ {ls:List (Ln)} {r:Nat} (h:colonAt ls r=true):∃ hr:r < ls.length,0 < ls[r].length/\ls[r][ls[r].length - 1]? = some 58:=by
 unfold colonAt at h
 simp only [j8] at h
 by_cases hr:r < ls.length
 ·rw [n3 hr] at h
  have h':ls[r].getLast? = some 58:=h
  rw [dK] at h'
  refine ⟨hr,?_,h'⟩
  refine bR λ q=>?_
  rw [q] at h'
  rw [eQ (by exact v1 q)] at h'; cases h'
 ·rw [eQ (by exact gB hr)] at h; cases h
theorem qOr {ls:List (Ln)} {r:Nat} (hr:r < ls.length) (h:ls[r][ls[r].length - 1]? = some 58):colonAt ls r=true:=by
 unfold colonAt
 simp only [j8]
 rw [n3 hr]
 show ls[r].getLast? = some 58
 rw [dK]; exact h
section
variable {ls:List (Ln)} {k j:Nat}
def txt (ls:List (Ln)):Str:=⟨(flat ls).toArray⟩
theorem qCo:(txt ls).cps.size=(flat ls).length:=by simp [txt]
theorem qHf:(txt ls).length=(flat ls).length:=by simp [txt,Str.length]
theorem qBw (i:Nat):(txt ls).cps[i]? = (flat ls)[i]?:=by simp [txt]
theorem qIx (hL:Lines ls) (hk:k<=ls.length) {i:Nat}:At (txt ls) ":\n" (stA ls k) i ↔ ∃ r,r < k/\colonAt ls r=true/\i+2=stA ls (r+1):=by
 rw [zOl (by rw [qCo]; exact stA_le),qBw,qBw,qAi hL]
 constructor
 ·rintro ⟨L,h2,r,hr,h3⟩
  have u:r < k:=by
   refine Nat.not_le.mp λ h=>?_
   have:=zD (ls:=ls) (show k<=r from h)
   rw [zA hr] at h3; lia
  refine ⟨r,u,?_,by lia⟩
  rw [zA hr] at h3
  by_cases D:0 < ls[r].length
  ·refine qOr hr ?_
   have e:i=stA ls r+(ls[r].length - 1):=by lia
   rw [e,uS hr (by lia),t9 (by lia)] at h2
   exact h2
  ·have e:i+1=stA ls r:=by lia
   cases r with
   | zero=>rw [stA_zero] at e; lia
   | succ r =>
    have:=(qAi (j:=i) hL).mpr ⟨r,by exact m_d8 hk u,e⟩
    rw [this] at h2; cases h2
 ·rintro ⟨r,hr,hc,e⟩
  obtain ⟨B,D,hv⟩:=yQ hc
  have O:=zD (ls:=ls) (show r+1<=k from hr)
  refine ⟨by lia,?_,r,B,by exact e⟩
  rw [zA B] at e
  have J:i=stA ls r+(ls[r].length - 1):=by exact n_d3 e D
  rw [J,uS B (by exact lO _ 1),t9 (by lia)]
  exact hv
theorem qXq (hL:Lines ls) (hk:k<=ls.length):lastOccurrence (txt ls) ":\n" 0 (stA ls k)=(jF ls k).map λ j=>stA ls (j+1) - 2:=by
 cases hc:jF ls k with
 | none =>
  refine qGg λ i h=>?_
  obtain ⟨r,u,h2,_⟩:=(qIx hL hk).mp h
  rw [qGr hc r u] at h2; exact zF1 h2
 | some j =>
  obtain ⟨u,h2,h3⟩:=jE hc
  obtain ⟨D,O,_⟩:=yQ h2
  have e:=zA D
  show _=some (stA ls (j+1) - 2)
  refine qQd ((qIx hL hk).mpr ⟨j,u,h2,?_⟩) λ i hi h=>?_
  ·lia
  ·obtain ⟨r,J,B,L⟩:=(qIx hL hk).mp h
   rcases nB j r with q | q
   ·rw [h3 r q J] at B; exact zF1 B
   ·have:=zD (ls:=ls) (show r+1<=j+1 by lia); lia
theorem zPc (hL:Lines ls) (hj:j < ls.length) {i:Nat} (D:stA ls j<=i) (h2:i < stA ls (j+1)):xR (txt ls) "\n" 0 i+1=(stA ls j:Int):=by
 have hi:i<=(txt ls).cps.size:=by rw [qCo]; have:=stA_le (ls:=ls) (k:=j+1); lia
 have u:∀ q,At (txt ls) "\n" i q->∃ r,r < j/\q+1=stA ls (r+1):=by
  intro q h
  rw [at_nl hi,qBw,qAi hL] at h
  obtain ⟨a,r,hr,e⟩:=h
  refine ⟨r,Nat.not_le.mp λ B=>?_,e⟩
  have:=zD (ls:=ls) (show j+1<=r+1 by exact m2 B); lia
 unfold xR
 cases j with
 | zero =>
  rw [qGg λ q h=>by obtain ⟨r,hr,_⟩:=u q h; simp_all,stA_zero]; rfl
 | succ j =>
  have hp:0 < stA ls (j+1):=by rw [zA (by exact n1 hj)]; simp
  rw [qQd (i:=stA ls (j+1) - 1)]
  ·show ((stA ls (j+1) - 1:Nat):Int)+1=_
   exact m_d9 hp
  ·rw [at_nl hi,qBw,qAi hL]
   exact ⟨by lia,j,by exact n1 hj,by lia⟩
  ·intro q B h
   obtain ⟨r,hr,e⟩:=u q h
   have:=zD (ls:=ls) (show r+1<=j+1 by exact hr); exact n_d4 B e this
theorem zEm (hL:Lines ls) (hk:k<=ls.length):xR (txt ls) ":\n" 0 (stA ls k)=match jF ls k with | some j=>((stA ls (j+1) - 2:Nat):Int) | none=>-1:=by
 unfold xR
 rw [qXq hL hk]
 cases jF ls k <;> rfl
end
end Mine.Lake.Tx
namespace Mine.Lake.Tx
open PySem PySem.W PyProof.Rows Mine.Lake Mine.Lake.Re
open Mine.Lake.L09 (yO)
section
variable {M:Type}
def vF (ls:List (Ln)) (test:Nat->M->Bool×M):Nat->Nat->M->Option Nat×M
 | 0,_,m=>(none,m)
 | n+1,k,m=>match jF ls k with
  | none=>(none,m)
  | some j=>match zE ls (k - j) j with
   | none=>vF ls test n j m
   | some (r,_)=>if (test (stA ls r) m).1=true then vF ls test n j (test (stA ls r) m).2 else (some r,(test (stA ls r) m).2)
def xU (ls:List (Ln)) (test:Nat->M->Bool×M):Nat->Nat->Nat->M->Nat×M
 | 0,_,pos,m=>(pos,m)
 | n+1,a,pos,m=>match zC ls a with
  | none=>xU ls test n (a+1) pos m
  | some _=>xU ls test n (a+1) (if (test (stA ls a) m).1=true then pos else a) (test (stA ls a) m).2
def qAp (ls:List (Ln)) (test:Nat->M->Bool×M) (m:M):Option Nat×M:=match zE ls ls.length 0 with
 | none=>(none,m)
 | some (r,_)=>(if (test (stA ls r) m).1=true then none else some r,(test (stA ls r) m).2)
theorem qCq {ls:List (Ln)} {test:Nat->M->Bool×M} {n k:Nat} {m:M}:vF ls test (n+1) k m=match jF ls k with
  | none=>(none,m)
  | some j=>match zE ls (k - j) j with
   | none=>vF ls test n j m
   | some (r,_)=>if (test (stA ls r) m).1=true then vF ls test n j (test (stA ls r) m).2 else (some r,(test (stA ls r) m).2):=rfl
def findG (ls:List (Ln)) (test:Nat->M->Bool×M) (m:M):Option Nat×M:=match vF ls test 5 ls.length m with
 | (none,m')=>qAp ls test m'
 | (some r,m')=>(some (xU ls test (ls.length - (r+1)) (r+1) r m').1,(xU ls test (ls.length - (r+1)) (r+1) r m').2)
theorem qDq {ls:List (Ln)} {test:Nat->M->Bool×M}:∀ {n a pos:Nat} {m:M},xU ls test n a pos m=match zE ls n a with
  | none=>(pos,m)
  | some (r,_)=>xU ls test (a+n - (r+1)) (r+1) (if (test (stA ls r) m).1=true then pos else r) (test (stA ls r) m).2
 | 0,a,pos,m=>rfl
 | n+1,a,pos,m=>by
  have e1:xU ls test (n+1) a pos m=match zC ls a with
   | none=>xU ls test n (a+1) pos m
   | some _=>xU ls test n (a+1) (if (test (stA ls a) m).1=true then pos else a) (test (stA ls a) m).2:=rfl
  have e2:zE ls (n+1) a=match zC ls a with
   | some e=>some (a,e)
   | none=>zE ls n (a+1):=rfl
  rw [e1,e2]
  cases hw:zC ls a with
  | some e=>dsimp only; rw [show a+(n+1) - (a+1)=n by exact n_d5]
  | none =>
   dsimp only
   rw [qDq,show a+1+n=a+(n+1) by exact l9 _ 1 _]
end
def rowV (ls:List (Ln)):Option Nat->V
 | none=>.none
 | some r=>.int (stA ls r)
structure Bs (cx:Sx):Prop where
 calm:cx.calm=false
 len:cx.gl "len" = some (.top (.builtin "len"))
 rng:cx.gl "range" = some (.top (.type "range"))
 syn:∃ a,cx.gl "_synchre" = some (.top (.ref a))/\∀ args H,cx.app (.top (.ref a)) args H=xJ args H
 b:∀ i args H,cx.app (.top (.builtin i)) args H=bapp false i args H
 t:∀ i args H,cx.app (.top (.type i)) args H=tapp i args H
 gs:∀ x H,cx.get (.str x) "rfind" H=some (.top (.builtin "str.rfind"),[.str x])
 g1:∀ p e H,cx.get (.mt p e) "start" H=some (.top (.builtin "re.Match.start"),[.mt p e])
 g2:∀ p e H,cx.get (.mt p e) "span" H=some (.top (.builtin "re.Match.span"),[.mt p e])
theorem cIsNN {H:Hp}:vG H .Is .none .none=.ok (.bool true):=rfl
theorem cIsNI {H:Hp} {i:Int}:vG H .Is (.int i) .none=.ok (.bool false):=rfl
theorem zAf {x:Str} {is:List Int} {H:Hp} (h : -(2 ^ 63)<=zL is/\zL is < 2 ^ 63/\-(2 ^ 63)<=zK is/\zK is < 2 ^ 63) :
  qFz x is H=okH (mtV (zM x.cps words1 (min (zL is).toNat x.cps.size) (min (zK is).toNat x.cps.size))) H:=by
 unfold qFz
 refine (c7 h).trans ?_
 cases zM x.cps words1 (min (zL is).toNat x.cps.size) (min (zK is).toNat x.cps.size) with
 | none=>rfl
 | some q=>rfl
section
variable {cx:Sx} {Z:St} {ls:List (Ln)} {vt:V}
theorem qRe {a:Nat} (h:a<=g0) : -(2 ^ 63)<=(a:Int)/\(a:Int) < 2 ^ 63:=by
 have u:g0=16777216:=by decide
 lia
theorem zBz : -(2 ^ 63)<=(2 ^ 63 - 1:Int)/\(2 ^ 63 - 1:Int) < 2 ^ 63:=by decide
theorem qNv {a n:Nat} (h:a<=n):min (a:Int).toNat n=a:=by rw [dP]; exact dT h
theorem qPz {n:Nat} (h:n<=g0):min (2 ^ 63 - 1:Int).toNat n=n:=eM (d5 h (by decide))
theorem qIq (B:Bs cx) {as:X} {vs:List V} {is:List Int} {r:Option (Nat×Nat)} (ha:ev cx.toCx as Z=.ok (.list (.str (txt ls)::vs)) Z) (hi:qGk vs=some is)
  (hp : -(2 ^ 63)<=zL is/\zL is < 2 ^ 63) (u : -(2 ^ 63)<=zK is/\zK is < 2 ^ 63) {a l:Nat} (D:min (zL is).toNat (flat ls).length=a) (h2:min (zK is).toNat (flat ls).length=l) (hs:zM (flat ls).toArray words1 a l=r) :
  ev cx.toCx (.call (.glob "_synchre") as) Z=.ok (mtV r) Z:=by
 obtain ⟨J,g1,g2⟩:=B.syn
 have e:xJ (.str (txt ls)::vs) Z.toHp=okH (mtV r) Z.toHp:=by
  have e0:xJ (.str (txt ls)::vs) Z.toHp=qFz (txt ls) is Z.toHp:=by
   show (qGk vs).elim Rs.bad _=_
   rw [hi]; rfl
  rw [e0,zAf ⟨hp.1,hp.2,u⟩,qCo,D,h2]
  exact g8 (λ q=>okH (mtV q) Z.toHp) hs
 exact xZ (Z':={ toHp:=Z.toHp,loc:=[] }) (qZ g1) ha ((g2 _ _).trans e)
theorem qOl (B:Bs cx) (hL:Lines ls) (u:(flat ls).length<=g0) {a k:Nat} (hk:k<=ls.length) (D:a<=k) (J:Z.loc.lookup ("code" : Str)=some (.str (txt ls))) (h2:Z.loc.lookup ("i" : Str)=some (.int (stA ls a))) (h3:Z.loc.lookup ("limit" : Str)=some (.int (stA ls k))) :
  ev cx.toCx (.call (.glob "_synchre") (.cons (.var "code") (.cons (.var "i") (.cons (.var "limit") .nil)))) Z=.ok (mtV ((zE ls (k - a) a).map λ x=>(stA ls x.1,stA ls x.1+x.2))) Z :=
 qIq B (vs:=[.int (stA ls a),.int (stA ls k)]) (is:=[(stA ls a:Int),(stA ls k:Int)]) (qJ (qB J) (qJ (qB h2) (qJ (qB h3) rfl))) rfl (qRe (d5 stA_le u)) (qRe (d5 stA_le u)) (qNv stA_le) (qNv stA_le)
  (jJ hL hk D (d7 _) λ r hr=>zKs hr (d5 D hk))
theorem qOn (B:Bs cx) (hL:Lines ls) (u:(flat ls).length<=g0) (D:Z.loc.lookup ("code" : Str)=some (.str (txt ls))) :
  ev cx.toCx (.call (.glob "_synchre") (.cons (.var "code") .nil)) Z=.ok (mtV ((zE ls ls.length 0).map λ x=>(stA ls x.1,stA ls x.1+x.2))) Z :=
 qIq B (vs:=[]) (is:=[]) (qJ (qB D) rfl) rfl (qRe (a:=0) (m9 _)) zBz (Nat.zero_min _) (qPz u)
  (by rw [← yY]; exact jJ hL (d7 _) (m9 _) (m9 _) λ r hr=>f8 hr (lE r))
theorem qOm (B:Bs cx) (hL:Lines ls) (u:(flat ls).length<=g0) {a p:Nat} (D:a<=ls.length) (hp:p<=stA ls a) (hn:∀ r,r < a->stA ls r < p) (J:Z.loc.lookup ("code" : Str)=some (.str (txt ls))) (h2:Z.loc.lookup ("i" : Str)=some (.int (p:Nat))) :
  ev cx.toCx (.call (.glob "_synchre") (.cons (.var "code") (.cons (.var "i") .nil))) Z=.ok (mtV ((zE ls (ls.length - a) a).map λ x=>(stA ls x.1,stA ls x.1+x.2))) Z :=
 qIq B (vs:=[.int (p:Nat)]) (is:=[(p:Int)]) (qJ (qB J) (qJ (qB h2) rfl)) rfl (qRe (d5 hp (d5 stA_le u))) zBz (qNv (d5 hp stA_le)) (qPz u)
  (by rw [← yY]; exact jJ hL (d7 _) D hp hn)
theorem qLg (B:Bs cx) {y:Str} {x:Str} {j:Nat} {u:Str} (D:Z.loc.lookup ("code" : Str)=some (.str x)) (h2:Z.loc.lookup u=some (.int (j:Nat))) (hj:j<=x.length) :
  ev cx.toCx (.meth (.var "code") "rfind" (.cons (.str y) (.cons (.int 0) (.cons (.var u) .nil)))) Z=.ok (.int (xR x y 0 j)) Z:=by
 have e:bapp false "str.rfind" [.str x,.str y,.int 0,.int (j:Nat)] Z.toHp=okH (.int (xR x y 0 j)) Z.toHp:=by
  unfold bapp
  rw [zX1,c7 rfl]
  have e2:min (Re.upTo x.length (j:Int)) x.length=j:=by
   have:Re.upTo x.length (j:Int)=j:=rfl
   rw [this]; exact dT hj
  show okH (.int (xR x y 0 (min (Re.upTo x.length (j:Int)) x.length))) Z.toHp=_
  rw [e2]
 exact xM (Z':={ toHp:=Z.toHp,loc:=[] }) (qB D) (B.gs _ _) (qJ rfl (qJ rfl (qJ (qB h2) rfl))) ((B.b _ _ _).trans e)
theorem qEb (B:Bs cx) {p e:Nat} (h:Z.loc.lookup ("m" : Str)=some (.mt p e)):ev cx.toCx (.meth (.var "m") "start" .nil) Z=.ok (.int (p:Nat)) Z:=by
 have e1:bapp false "re.Match.start" [.mt p e] Z.toHp=okH (.int (p:Nat)) Z.toHp:=by
  unfold bapp
  rw [zX1,zX1,zX1,zX1,zX1,c7 rfl]; rfl
 exact xM (Z':={ toHp:=Z.toHp,loc:=[] }) (qB h) (B.g1 _ _ _) (xs:=[]) rfl ((B.b _ _ _).trans e1)
theorem zIo (B:Bs cx) {p e:Nat} (h:Z.loc.lookup ("m" : Str)=some (.mt p e)):ev cx.toCx (.meth (.var "m") "span" .nil) Z=.ok (.tup [.int (p:Nat),.int (e:Nat)]) Z:=by
 have e1:bapp false "re.Match.span" [.mt p e] Z.toHp=okH (.tup [.int (p:Nat),.int (e:Nat)]) Z.toHp:=by
  unfold bapp
  rw [zX1,zX1,zX1,zX1,zX1,zX1,c7 rfl]; rfl
 exact xM (Z':={ toHp:=Z.toHp,loc:=[] }) (qB h) (B.g2 _ _ _) (xs:=[]) rfl ((B.b _ _ _).trans e1)
end
open Mine.Lake.L09 (yO qJb qIu qDl qBv qBu)
structure Fr (Z:St) (ls:List (Ln)) (vt pos:V):Prop where
 code:Z.loc.lookup ("code" : Str)=some (.str (txt ls))
 tst:Z.loc.lookup ("is_char_in_string" : Str)=some vt
 pos:Z.loc.lookup ("pos" : Str)=some pos
theorem Fr.set {Z:St} {ls:List (Ln)} {vt pos:V} (h:Fr Z ls vt pos) {x:Str} {v:V} (u:(("code" : Str) == x)=false) (h2:(("is_char_in_string" : Str) == x)=false) (h3:(("pos" : Str) == x)=false):Fr (Z.set x v) ls vt pos :=
 ⟨qA u h.code,qA h2 h.tst,qA h3 h.pos⟩
theorem Fr.setP {Z:St} {ls:List (Ln)} {vt pos:V} (h:Fr Z ls vt pos) {v:V}:Fr (Z.set "pos" v) ls vt v :=
 ⟨zX2 h.code,zX2 h.tst,qC⟩
theorem Fr.hp {Z:St} {ls:List (Ln)} {vt pos:V} (h:Fr Z ls vt pos) {H:Hp}:Fr { Z with toHp:=H } ls vt pos:=⟨h.code,h.tst,h.pos⟩
section
variable {M:Type} {cx:Sx} {Z:St} {ls:List (Ln)} {vt:V} {I:Nat->M->Hp->Prop} {test:Nat->M->Bool×M} {m:M}
structure TestOk (cx:Sx) (vt:V) (I:Nat->M->Hp->Prop) (test:Nat->M->Bool×M):Prop where
 less:∀ c m H,I (c+1) m H->I c m H
 ask:∀ c p m H,I (c+1) m H->∃ H',I c (test p m).2 H'/\∀ Z:St,(cx.app vt [.int (p:Nat)] H).lift Z=.ok (.bool (test p m).1) { Z with toHp:=H' }
theorem TestOk.le (T:TestOk cx vt I test) {c:Nat} {H:Hp}:∀ {d:Nat},c<=d->I d m H->I c m H:=λ {d} h u=>by
 induction h with
 | refl=>exact u
 | step _ B=>exact B (T.less _ _ _ u)
theorem qQt {c:Nat} (T:TestOk cx vt I test) (B:I (c+1) m Z.toHp) (hv:Z.loc.lookup ("is_char_in_string" : Str)=some vt) {e:X} {p:Nat} (D:ev cx.toCx e Z=.ok (.int (p:Nat)) Z) :
  ∃ H',I c (test p m).2 H'/\ev cx.toCx (.not (.call (.var "is_char_in_string") (.cons e .nil))) Z=.ok (.bool !(test p m).1) { Z with toHp:=H' }:=by
 obtain ⟨H',u,h2⟩:=T.ask c p m Z.toHp B
 refine ⟨H',u,?_⟩
 have e:ev cx.toCx (.call (.var "is_char_in_string") (.cons e .nil)) Z=.ok (.bool (test p m).1) { Z with toHp:=H' }:=by
  rw [qLf,Rs.bind_ok (qB hv),Rs.bind_ok (qJ D rfl)]
  exact h2 Z
 rw [zIi,Rs.bind_ok e]; rfl
theorem zAn {c:Nat} (T:TestOk cx vt I test) (B:Bs cx) (O:I (c+1) m Z.toHp) (hv:Z.loc.lookup ("is_char_in_string" : Str)=some vt) {o:Option (Nat×Nat)} (D:Z.loc.lookup ("m" : Str)=some (mtV (o.map λ x=>(stA ls x.1,stA ls x.1+x.2)))) :
  (o=none/\ev cx.toCx (.and (.var "m") (.not (.call (.var "is_char_in_string") (.cons (.meth (.var "m") "start" .nil) .nil)))) Z=.ok .none Z) \/
  ∃ r e H',o=some (r,e)/\I c (test (stA ls r) m).2 H'/\ev cx.toCx (.and (.var "m") (.not (.call (.var "is_char_in_string") (.cons (.meth (.var "m") "start" .nil) .nil)))) Z=.ok (.bool !(test (stA ls r) m).1) { Z with toHp:=H' } /\
   Z.loc.lookup ("m" : Str)=some (.mt (stA ls r) (stA ls r+e)):=by
 cases o with
 | none =>
  left
  refine ⟨rfl,?_⟩
  have u:Z.loc.lookup ("m" : Str)=some .none:=D
  have J:ev cx.toCx (.var "m") Z=.ok .none Z:=qB u
  exact (Rs.bind_ok J:_)
 | some x =>
  obtain ⟨r,e⟩:=x
  right
  have u:Z.loc.lookup ("m" : Str)=some (.mt (stA ls r) (stA ls r+e)):=D
  obtain ⟨H',L,h2⟩:=qQt T O hv (qEb B u)
  refine ⟨r,e,H',rfl,L,?_,u⟩
  have:ev cx.toCx (.var "m") Z=.ok (.mt (stA ls r) (stA ls r+e)) Z:=qB u
  have h3:ev cx.toCx (.and (.var "m") (.not (.call (.var "is_char_in_string") (.cons (.meth (.var "m") "start" .nil) .nil)))) Z=condR (.mt (stA ls r) (stA ls r+e)) Z (ev cx.toCx (.not (.call (.var "is_char_in_string") (.cons (.meth (.var "m") "start" .nil) .nil)))) (λ a0=>.ok (.mt (stA ls r) (stA ls r+e)) a0):=(Rs.bind_ok this:_)
  rw [h3]
  unfold condR
  exact h2
set_option tactic.hygienic true in
theorem body_run {c:Nat} (T:TestOk cx vt I test) (B:Bs cx) (hL:Lines ls) (af:(flat ls).length<=g0) {k:Nat} (hk:k<=ls.length) (O:Fr Z ls vt .none) (ab:Z.loc.lookup ("limit" : Str)=some (.int (stA ls k))) (a9:I (c+1) m Z.toHp) {Q:Fl->St->Prop}
  (a4:∀ Z',jF ls k=none->Fr Z' ls vt .none->I c m Z'.toHp->Q .brk Z')
  (L:∀ Z' j r e,jF ls k=some j->zE ls (k - j) j=some (r,e)->(test (stA ls r) m).1=false->Fr Z' ls vt (.int (stA ls r))->I c (test (stA ls r) m).2 Z'.toHp->Q .brk Z')
  (ai:∀ Z' j D,jF ls k=some j->(∀ n,vF ls test (n+1) k m=vF ls test n j D)->Fr Z' ls vt .none->Z'.loc.lookup ("limit" : Str)=some (.int (stA ls j))->I c D Z'.toHp->Q .next Z') :
  Gd (ex qJb cx Z) Q:=by
 refine qD (vA (qLg B O.code ab (by rw [qHf]; exact stA_le)) ?_)
 rw [zEm hL hk]
 cases hc:jF ls k with
 | none =>
  refine qD (qT (v:=.bool true) (t:=true) ((qJn (x:=-1) (y:=0) (qB qC) rfl).trans rfl) rfl (λ z=>?_) (λ q=>zT1 q))
  exact qD ⟨_,_,rfl,a4 _ hc (O.set (by decide) (by decide) (by decide)) (T.less _ _ _ a9)⟩
 | some j =>
  obtain ⟨c1,c2,c3⟩:=jE hc
  obtain ⟨hj,c4,_⟩:=yQ c2
  have hs:=zA hj
  have ae:stA ls j<=stA ls (j+1) - 2:=by rw [hs]; exact dQ (i7 (u9 c4) _)
  have Y:stA ls (j+1) - 2 < stA ls (j+1):=Nat.sub_lt (by rw [hs]; exact lJ _) (by decide)
  dsimp only
  generalize stA ls (j+1) - 2=q at ae Y ⊢
  refine qD (qT (v:=.bool false) (t:=false) (by
   rw [qJn (qB qC) rfl,r5 (Int.not_lt.mpr (bQ q))]) rfl (λ q=>by cases q) (λ z=>gd_nil ?_))
  have V:Fr (Z.set "i" (.int (q:Int))) ls vt .none:=O.set (by decide) (by decide) (by decide)
  have ac:(Z.set "i" (.int (q:Int))).loc.lookup ("limit" : Str)=some (.int (stA ls k)):=zX2 ab
  have a5:(Z.set "i" (.int (q:Int))).loc.lookup ("i" : Str)=some (.int (q:Int)):=qC
  have ad:I (c+1) m (Z.set "i" (.int (q:Int))).toHp:=a9
  generalize Z.set "i" (.int (q:Int))=Z at V ac a5 ad ⊢
  have aj:=qLg (y:="\n") B V.code a5 (by rw [qHf]; exact d5 (n1 Y) stA_le)
  refine qD (vA (v:=.int (stA ls j:Int)) (a0:=Z) (by
   show (ev cx.toCx _ Z).bind _=_
   rw [aj]
   show (qJc Z.toHp .Add (.int (xR (txt ls) "\n" 0 q)) (.int 1)).st Z=_
   rw [zQg,zPc hL hj ae Y]; rfl) ?_)
  have a1:Fr (Z.set "i" (.int (stA ls j:Int))) ls vt .none:=V.set (by decide) (by decide) (by decide)
  have aa:(Z.set "i" (.int (stA ls j:Int))).loc.lookup ("limit" : Str)=some (.int (stA ls k)):=zX2 ac
  have U:(Z.set "i" (.int (stA ls j:Int))).loc.lookup ("i" : Str)=some (.int (stA ls j:Int)):=qC
  have a6:I (c+1) m (Z.set "i" (.int (stA ls j:Int))).toHp:=ad
  generalize Z.set "i" (.int (stA ls j:Int))=Z at a1 aa U a6 ⊢
  refine qD (vA (qOl B hL af hk (n1 c1) a1.code U aa) ?_)
  generalize hw:zE ls (k - j) j=o
  have a7:=@qC Z "m" (mtV (o.map λ x=>(stA ls x.1,stA ls x.1+x.2)))
  have u:Fr (Z.set "m" (mtV (o.map λ x=>(stA ls x.1,stA ls x.1+x.2)))) ls vt .none:=a1.set (by decide) (by decide) (by decide)
  have X:(Z.set "m" (mtV (o.map λ x=>(stA ls x.1,stA ls x.1+x.2)))).loc.lookup ("i" : Str)=some (.int (stA ls j:Int)):=zX2 U
  have S:I (c+1) m (Z.set "m" (mtV (o.map λ x=>(stA ls x.1,stA ls x.1+x.2)))).toHp:=a6
  generalize Z.set "m" (mtV (o.map λ x=>(stA ls x.1,stA ls x.1+x.2)))=Z at u X S a7 ⊢
  have tail:∀ (Z:St) (D:M),(∀ n,vF ls test (n+1) k m=vF ls test n j D)->Fr Z ls vt .none->Z.loc.lookup ("i" : Str)=some (.int (stA ls j:Int))->I c D Z.toHp->Gd (ex (.seq (.asg "limit" (.var "i")) .nil) cx Z) Q:=λ Z D hG hF hi hI =>
   qD (vA (v:=.int (stA ls j:Int)) (a0:=Z) (qB hi) (gd_nil (ai _ j D hc hG (hF.set (by decide) (by decide) (by decide)) qC hI)))
  rcases zAn T B S u.tst a7 with ⟨rfl,J⟩ | ⟨r',e,H',rfl,a8,J,ah⟩
  ·refine qD (qT (t:=false) J rfl (λ q=>zF1 q) (λ z=>gd_nil ?_))
   exact tail Z m (λ n=>by rw [qCq,hc]; dsimp only; rw [hw]) u X (T.less _ _ _ S)
  ·cases hb:(test (stA ls r') m).1 with
   | true =>
    rw [hb] at J
    refine qD (qT (t:=false) J rfl (λ q=>zF1 q) (λ z=>gd_nil ?_))
    exact tail _ _ (λ n=>by rw [qCq,hc]; dsimp only; rw [hw]; dsimp only; rw [c7 hb]) u.hp X a8
   | false =>
    rw [hb] at J
    refine qD (qT (t:=true) J rfl (λ z=>?_) (λ q=>zT1 q))
    have ag:({ Z with toHp:=H' }:St).loc.lookup ("m" : Str)=some (.mt (stA ls r') (stA ls r'+e)):=ah
    exact qD (vA (qEb B ag) (qD ⟨_,_,rfl,L _ j r' e hc hw hb u.hp.setP a8⟩))
theorem zAr {c:Nat} (T:TestOk cx vt I test) (B:Bs cx) (hL:Lines ls) (S:(flat ls).length<=g0) (h:Fr Z ls vt .none) (hl:Z.loc.lookup ("limit" : Str)=some (.int (stA ls ls.length))) (O:I (c+5) m Z.toHp) :
  Gd (ex qIu cx Z) λ f Z'=>f=.next/\Fr Z' ls vt (rowV ls (vF ls test 5 ls.length m).1)/\I c (vF ls test 5 ls.length m).2 Z'.toHp:=by
 generalize hR:vF ls test 5 ls.length m=R
 have hr:ev cx.toCx (.call (.glob "range") (.cons (.int 5) .nil)) Z=.ok (.rng 0 5 1) Z:=by
  have e:tapp "range" [.int 5] Z.toHp=okH (.rng 0 5 1) Z.toHp:=by
   unfold tapp; rw [c7 rfl]
   show (if Builtin.Range.small 0 5 1=true then okH (V.rng 0 5 1) Z.toHp else .bad)=_
   rw [c7 (by decide +kernel)]
  exact xZ (Z':={ toHp:=Z.toHp,loc:=[] }) (qZ B.rng) (qJ rfl rfl) ((B.t _ _ _).trans e)
 have hi:∀ H:Hp,zV H (.rng 0 5 1)=some [.int 0,.int 1,.int 2,.int 3,.int 4]:=λ H=>rfl
 refine qQo B.calm hr (hi _) (λ l Z=>∃ k L,k<=ls.length/\Fr Z ls vt .none/\Z.loc.lookup ("limit" : Str)=some (.int (stA ls k))/\I (c+l.length) L Z.toHp/\vF ls test l.length k L=R) ⟨ls.length,m,d7 _,h,hl,O,hR⟩ (λ l Z q=>hi _) ?_ ?_
 ·rintro y r Z ⟨k,L,hk,hF,hlm,O,hG⟩
  have u:vF ls test (r.length+1) k L=R:=hG
  refine body_run T B hL S hk (hF.set (by decide) (by decide) (by decide)) (zX2 hlm) O (λ Z' hc D J=>?_) (λ Z' j r' e hc hw hb D J=>?_) (λ Z' j X hc U D Y J=>?_)
  ·rw [qCq,hc] at u
   rw [← u]
   exact ⟨rfl,D,T.le (n4 _ _) J⟩
  ·rw [qCq,hc] at u
   dsimp only at u
   rw [hw] at u
   dsimp only at u
   rw [d0 (by rw [hb]; exact gR)] at u
   rw [← u]
   exact ⟨rfl,D,T.le (n4 _ _) J⟩
  ·exact ⟨j,X,d5 (n1 (jE hc).1) hk,D,Y,J,(U _).symm.trans u⟩
 ·rintro Z ⟨k,L,hk,hF,hlm,O,hG⟩
  have u:(none,L)=R:=hG
  rw [← u]
  exact ⟨rfl,hF,O⟩
end
open Mine.Lake.L09 (yO qJb qIu qDl qBv qBu)
section
variable {M:Type} {cx:Sx} {Z:St} {ls:List (Ln)} {vt:V} {I:Nat->M->Hp->Prop} {test:Nat->M->Bool×M} {m:M}
theorem qYn {c:Nat} (T:TestOk cx vt I test) (B:Bs cx) (hL:Lines ls) (V:(flat ls).length<=g0) (h:Fr Z ls vt .none) (hI:I (c+1) m Z.toHp) :
  Gd (ex qDl cx Z) λ f Z'=>f=.ret (rowV ls (qAp ls test m).1)/\I c (qAp ls test m).2 Z'.toHp:=by
 unfold qDl qAp
 refine qD (vA (qOn B hL V h.code) ?_)
 have O:=@qC Z "m" (mtV ((zE ls ls.length 0).map λ x=>(stA ls x.1,stA ls x.1+x.2)))
 have u:Fr (Z.set "m" (mtV ((zE ls ls.length 0).map λ x=>(stA ls x.1,stA ls x.1+x.2)))) ls vt .none:=h.set (by decide) (by decide) (by decide)
 have L:I (c+1) m (Z.set "m" (mtV ((zE ls ls.length 0).map λ x=>(stA ls x.1,stA ls x.1+x.2)))).toHp:=hI
 generalize Z.set "m" (mtV ((zE ls ls.length 0).map λ x=>(stA ls x.1,stA ls x.1+x.2)))=Z at u L O ⊢
 rcases zAn T B L u.tst O with ⟨U,J⟩ | ⟨D,e,H',U,S,J,a1⟩
 ·rw [U]
  refine qD (qT (t:=false) J rfl (λ q=>zF1 q) (λ z=>gd_nil ?_))
  exact qD (kL (v:=.none) (a0:=Z) (qB u.pos) ⟨rfl,T.less _ _ _ L⟩)
 ·rw [U]
  dsimp only
  cases Y:(test (stA ls D) m).1 with
  | true =>
   rw [Y] at J
   refine qD (qT (t:=false) J rfl (λ q=>zF1 q) (λ z=>gd_nil ?_))
   exact qD (kL (v:=.none) (a0:={ Z with toHp:=H' }) (qB u.pos) ⟨rfl,S⟩)
  | false =>
   rw [Y] at J
   refine qD (qT (t:=true) J rfl (λ z=>?_) (λ q=>zT1 q))
   have X:({ Z with toHp:=H' }:St).loc.lookup ("m" : Str)=some (.mt (stA ls D) (stA ls D+e)):=a1
   refine qD (vA (qEb B X) (gd_nil ?_))
   refine qD (kL (v:=.int (stA ls D:Int)) (a0:=({ Z with toHp:=H' }:St).set "pos" (.int (stA ls D:Int))) ?_ ⟨rfl,S⟩)
   exact qB (@qC { Z with toHp:=H' } "pos" (.int (stA ls D:Int)))
set_option tactic.hygienic true in
theorem qRk {c:Nat} (T:TestOk cx vt I test) (B:Bs cx) {r e pos:Nat} (V:Z.loc.lookup ("m" : Str)=some (.mt (stA ls r) (stA ls r+e))) (Y:Fr Z ls vt (.int (stA ls pos))) (X:I (c+1) m Z.toHp) {Q:Fl->St->Prop}
  (h:∀ Z',Fr Z' ls vt (.int (stA ls (if (test (stA ls r) m).1=true then pos else r)))->Z'.loc.lookup ("i" : Str)=some (.int ((stA ls r+e:Nat):Int))->I c (test (stA ls r) m).2 Z'.toHp->Q .next Z'):Gd (ex qBv cx Z) Q:=by
 refine qD (qIn (zIo B V) ?_)
 have J:((Z.set "s" (.int (stA ls r:Nat))).set "i" (.int ((stA ls r+e:Nat):Int))).loc.lookup ("s" : Str)=some (.int (stA ls r:Nat)):=zX2 qC
 have D:((Z.set "s" (.int (stA ls r:Nat))).set "i" (.int ((stA ls r+e:Nat):Int))).loc.lookup ("i" : Str)=some (.int ((stA ls r+e:Nat):Int)):=qC
 have u:Fr ((Z.set "s" (.int (stA ls r:Nat))).set "i" (.int ((stA ls r+e:Nat):Int))) ls vt (.int (stA ls pos)):=(Y.set (by decide) (by decide) (by decide)).set (by decide) (by decide) (by decide)
 have U:I (c+1) m ((Z.set "s" (.int (stA ls r:Nat))).set "i" (.int ((stA ls r+e:Nat):Int))).toHp:=X
 generalize (Z.set "s" (.int (stA ls r:Nat))).set "i" (.int ((stA ls r+e:Nat):Int))=Z at J D u U ⊢
 obtain ⟨H',S,L⟩:=qQt T U u.tst (e:=.var "s") (p:=stA ls r) (qB J)
 cases O:(test (stA ls r) m).1 with
 | true =>
  rw [O] at L
  rw [c7 O] at h
  exact qD (qT (t:=false) L rfl (λ q=>zF1 q) (λ z=>gd_nil (gd_nil (h _ u.hp D S))))
 | false =>
  rw [O] at L
  rw [d0 (by rw [O]; exact gR)] at h
  exact qD (qT (t:=true) L rfl (λ z=>qD (vA (v:=.int (stA ls r:Nat)) (a0:={ Z with toHp:=H' }) (qB J) (gd_nil (gd_nil (h _ u.hp.setP (zX2 D) S))))) (λ q=>zT1 q))
theorem qRj (T:TestOk cx vt I test) (B:Bs cx) (hL:Lines ls) (X:(flat ls).length<=g0) (hn:ls.length < 1000) {a p pos:Nat} (J:a<=ls.length) (h2:p<=stA ls a) (h3:∀ r,r < a->stA ls r < p) (h:Fr Z ls vt (.int (stA ls pos)))
  (hi:Z.loc.lookup ("i" : Str)=some (.int (p:Nat))) (L:I (ls.length - a) m Z.toHp) :
  Gd (ex qBu cx Z) λ f Z'=>f=.next/\Fr Z' ls vt (.int (stA ls (xU ls test (ls.length - a) a pos m).1))/\I 0 (xU ls test (ls.length - a) a pos m).2 Z'.toHp:=by
 generalize hR:xU ls test (ls.length - a) a pos m=R
 refine uR (λ n Z=>∃ a p pos D,a<=ls.length/\p<=stA ls a/\(∀ r,r < a->stA ls r < p)/\Fr Z ls vt (.int (stA ls pos))/\Z.loc.lookup ("i" : Str)=some (.int (p:Nat))/\I (ls.length - a) D Z.toHp/\xU ls test (ls.length - a) a pos D=R/\ls.length - a < n)
  ⟨a,p,pos,m,J,h2,h3,h,hi,L,hR,m1 (lO _ _) hn⟩ ?_
 rintro n Z ⟨a,p,pos,D,J,h2,h3,hF,hi,L,hG,hlt⟩
 refine bC λ U=>?_
 obtain ⟨n,rfl⟩:∃ k,n=k+1:=⟨n - 1,(gT (m1 (m9 _) hlt)).symm⟩
 refine U ?_
 refine ⟨n,rfl,?_⟩
 have hs:=qOm B hL X J h2 h3 hF.code hi
 rw [qDq] at hG
 generalize hw:zE ls (ls.length - a) a=o at hs hG
 have O:ev cx.toCx (.named "m" (.call (.glob "_synchre") (.cons (.var "code") (.cons (.var "i") .nil)))) Z=.ok (mtV (o.map λ x=>(stA ls x.1,stA ls x.1+x.2))) (Z.set "m" (mtV (o.map λ x=>(stA ls x.1,stA ls x.1+x.2)))):=(Rs.bind_ok hs:_)
 cases o with
 | none =>
  refine ⟨_,_,false,O,rfl,(λ q=>zF1 q),λ z=>?_⟩
  have u:(pos,D)=R:=hG
  rw [← u]
  exact gd_nil ⟨rfl,hF.set (by decide) (by decide) (by decide),T.le (m9 _) L⟩
 | some x =>
  refine bC λ U=>?_
  obtain ⟨r,e⟩:=x
  obtain ⟨S,w2,w3,w4⟩:=xY hw
  obtain ⟨hr,w5,w6⟩:=hJ w3
  refine U ?_
  have a0:=zA hr
  have u:xU ls test (a+(ls.length - a) - (r+1)) (r+1) (if (test (stA ls r) D).1=true then pos else r) (test (stA ls r) D).2=R:=hG
  rw [dX J] at u
  refine ⟨_,_,true,O,rfl,λ z=>qRk (c:=ls.length - (r+1)) T B qC (hF.set (by decide) (by decide) (by decide)) (T.le (by exact n_d6 S hr) L) λ Z' Y V a1=>?_,(λ q=>zT1 q)⟩
  refine ⟨r+1,stA ls r+e,_,_,hr,?_,λ q hq=>?_,Y,V,a1,u,?_⟩
  ·rw [a0]; exact j6 (i7 w6 _)
  ·exact m1 (zD (bG hq)) (dA (m0 (by decide) w5))
  ·exact m0 (Nat.sub_lt_sub_left (m1 S hr) (m2 S)) (bG hlt)
theorem find_run (T:TestOk cx vt I test) (B:Bs cx) (hL:Lines ls) (D:(flat ls).length<=g0) (hn:ls.length < 1000) {k:Nat} (h1:Z.loc.lookup ("self" : Str)=some (.ref k)) (h2:Z.loc.lookup ("is_char_in_string" : Str)=some vt)
  (hf:cx.fld (.ref k) "code" Z.toHp=.ok (.str (txt ls))) (hI:I (ls.length+1+5) m Z.toHp) :
  Gd (ex yO cx Z) λ f Z'=>f=.ret (rowV ls (findG ls test m).1)/\I 0 (findG ls test m).2 Z'.toHp:=by
 unfold yO
 have ht:ev cx.toCx (.tup (.cons (.attr (.var "self") "code") (.cons .none .nil))) Z=.ok (.tup [.str (txt ls),.none]) Z:=by
  exact qVt (qJ (yI (qB h1) hf) (qJ rfl rfl)) (by show 2<=g0; decide)
 refine qD (qIn ht ?_)
 have O:Fr ((Z.set "code" (.str (txt ls))).set "pos" .none) ls vt .none:=⟨zX2 qC,zX2 (zX2 h2),qC⟩
 have J:I (ls.length+1+5) m ((Z.set "code" (.str (txt ls))).set "pos" .none).toHp:=hI
 generalize (Z.set "code" (.str (txt ls))).set "pos" .none=Z at O J ⊢
 have L:ev cx.toCx (.call (.glob "len") (.cons (.var "code") .nil)) Z=.ok (.int (stA ls ls.length)) Z:=by
  have e:bapp false "len" [.str (txt ls)] Z.toHp=okH (.int (stA ls ls.length)) Z.toHp:=by
   unfold bapp; rw [c7 rfl]
   show okH (.int (txt ls).length) Z.toHp=_
   rw [qHf,yY]
  exact xZ (Z':={ toHp:=Z.toHp,loc:=[] }) (qZ B.len) (qJ (qB O.code) rfl) ((B.b _ _ _).trans e)
 refine qD (vA L ?_)
 have hE:=zAr T B hL D (O.set (x:="limit") (v:=.int (stA ls ls.length)) (by decide) (by decide) (by decide)) qC J
 refine qD (hE.mono ?_)
 rintro f Z' ⟨rfl,hF2,hI2⟩
 dsimp only
 unfold findG
 cases S:vF ls test 5 ls.length m with
 | mk o u =>
 rw [S] at hF2 hI2
 cases o with
 | none =>
  dsimp only at hF2 hI2 ⊢
  refine qD (qT (v:=.bool true) (t:=true) (a0:=Z') (xG (qB hF2.pos) rfl cIsNN) rfl (λ z=>?_) (λ q=>zT1 q))
  refine (qYn T B hL D hF2 hI2).mono ?_
  rintro f Z'' ⟨rfl,h3⟩
  exact ⟨rfl,T.le (m9 _) h3⟩
 | some r =>
  dsimp only at hF2 hI2 ⊢
  have hr:r < ls.length:=by
   have X:∀ (n k:Nat) (m u:M),k<=ls.length->vF ls test n k m=(some r,u)->r < ls.length:=by
    intro n
    induction n with
    | zero=>intro k m u _ h; cases h
    | succ n U =>
     intro k m u hk h
     rw [qCq] at h
     cases hc:jF ls k with
     | none=>rw [hc] at h; cases h
     | some j =>
      rw [hc] at h
      dsimp only at h
      have hj:=(jE hc).1
      cases hw:zE ls (k - j) j with
      | none=>rw [hw] at h; exact U j m u (by exact d5 (n1 hj) hk) h
      | some x =>
       obtain ⟨r',e⟩:=x
       rw [hw] at h
       dsimp only at h
       split at h
       ·exact U j _ u (by exact d5 (n1 hj) hk) h
       ·cases h
        exact (hJ (xY hw).2.2.1).1
   exact X 5 ls.length m u (d7 _) S
  have V:=zA hr
  refine qD (qT (v:=.bool false) (t:=false) (a0:=Z') (xG (qB hF2.pos) rfl cIsNI) rfl (λ q=>by cases q) (λ z=>gd_nil ?_))
  refine qD (vA (v:=.int ((stA ls r+1:Nat):Int)) (a0:=Z') ((zP (y:=1) (qB hF2.pos) rfl).trans rfl) ?_)
  have hW:=qRj (m:=u) (pos:=r) (a:=r+1) (p:=stA ls r+1) (Z:=Z'.set "i" (.int ((stA ls r+1:Nat):Int))) T B hL D hn hr (by simp [V]) (λ q Y=>by
   have:=zD (ls:=ls) (show q<=r by exact bG Y); exact m2 this) (hF2.set (by decide) (by decide) (by decide)) qC (T.le (j6 (lO _ _)) hI2)
  refine qD (hW.mono ?_)
  rintro f Z'' ⟨rfl,hF3,hI3⟩
  exact qD (kL (a0:=Z'') (qB hF3.pos) ⟨rfl,hI3⟩)
end
end Mine.Lake.Tx
namespace Mine.Lake.L09
open PySem Mine.Lake.Rp
theorem qKi {t l':Ln}:∀ {r done:Ln},10 ∉ r->r++10::t=done++10::l'->(done=r/\l'=t)\/∃ u,done=r++10::u/\t=u++10::l'
 | [],[],_,h=>.inl ⟨rfl,(j5 h).2.symm⟩
 | [],d::done,_,h=>by
  obtain ⟨B,h2⟩:=j5 h
  exact .inr ⟨done,by rw [← B]; rfl,h2⟩
 | a::r,[],hr,h=>by
  obtain ⟨B,_⟩:=j5 h
  exact f8 (by rw [B]; exact .head _) hr
 | a::r,d::done,hr,h=>by
  obtain ⟨B,h2⟩:=j5 h
  subst B
  rcases qKi (λ q=>hr (.tail _ q)) h2 with ⟨e1,e2⟩ | ⟨D,e1,e2⟩
  ·exact .inl ⟨by rw [e1],e2⟩
  ·exact .inr ⟨D,by rw [e1]; rfl,e2⟩
theorem qPr {l':Ln}:∀ {ls:List (Ln)} {k:Nat} {done:Ln},Tx.Lines ls->Tx.flat ls=done++10::l'->done.count 10=k->l'=Tx.flat (ls.drop (k+1))
 | [],_,done,_,h,_=>by
  rw [Tx.flat_nil] at h
  exact f8 (List.append_eq_nil_iff.mp h.symm).2 (eA _ _)
 | r::rs,k,done,hL,h,hk=>by
  rw [Tx.flat_cons] at h
  have hr:10 ∉ r:=hL r (.head _)
  rcases qKi hr h with ⟨e1,e2⟩ | ⟨D,e1,e2⟩
  ·rw [e1,List.count_eq_zero.mpr hr] at hk
   subst hk
   exact e2
  ·rw [e1,mL,List.count_eq_zero.mpr hr,fE] at hk
   obtain ⟨u,rfl⟩:∃ u,k=u+1:=⟨k - 1,by exact n_e9 hk⟩
   have:=qPr (k:=u) (λ l B=>hL l (.tail _ B)) e2 (by simp_all)
   exact this
theorem vB {ls:List (Ln)} (hL:Tx.Lines ls):(Tx.flat ls).count 10=ls.length:=by
 induction ls with
 | nil=>rfl
 | cons r rs B =>
  rw [Tx.flat_cons,mL,List.count_eq_zero.mpr (hL r (.head _)),fE,B λ l u=>hL l (.tail _ u),m7]
  exact u3 0 (_+1)
theorem wU:∀ {ls:List (Ln)},ls≠[]->(Tx.flat ls).getLast? = some 10
 | [],h=>f8 rfl h
 | [r],_=>by rw [Tx.flat_cons,Tx.flat_nil,u8]
 | r::s::rs,_=>by
  rw [Tx.flat_cons]
  have:=wU (eA s rs)
  rw [lC,lZ,this]; rfl
theorem qKz {ls:List (Ln)} {k c:Nat} (h:c∈Tx.flat (ls.drop k)):c∈Tx.flat ls:=by
 rw [← v0 k ls,Tx.flat_append]
 exact w7 _ h
theorem qQq {ls:List (Ln)} {k:Nat}:(Tx.flat (ls.drop k)).length<=(Tx.flat ls).length:=by
 conv=>rhs; rw [← v0 k ls,Tx.flat_append,g7]
 exact n8 _ _
noncomputable def zO (N:Ln) (n k:Nat):Ln:=(m4 (k+1) (n - (k+1))).filter λ j=>N[j]? == some 0
def yG (N:Ln) (n k:Nat):Ln:=0::((zO N n k).map (· - k)++[n - k])
theorem zIq {k n u op:Nat} {ns:Ln} (hn:ns.length=n) (hk:k < n) (hv:u<=2) :
  ends ⟨0,n - k,glN k (ns++[u]),contF (ns++[u],op)⟩=some (glN k ns++[n - k],contF (ns++[u],op)):=by
 have O:(ns++[u]).getLast? = some u:=u8
 have J:∀ a∈glN k ns,a < n - k:=by
  intro a ha
  rcases List.mem_cons.mp ha with rfl | ha
  ·exact Nat.zero_lt_sub_of_lt hk
  ·obtain ⟨j,hj,rfl⟩:=List.mem_map.mp ha
   have:=List.mem_range'_1.mp (List.mem_filter.mp hj).1
   exact n_f0 hn this
 have hc:contF (ns++[u],op)=0 ↔ u=0:=by
  unfold contF
  show (if (ns++[u]).getLast? = some 2 then _ else if (ns++[u]).getLast? = some 1 then 1 else 0)=0 ↔ _
  rw [O]
  by_cases h2:u=2
  ·subst h2
   rw [c7 rfl]
   constructor
   ·intro q; split at q <;> cases q
   ·intro q; cases q
  ·rw [d0 (λ q=>h2 (j7 q))]
   by_cases L:u=1
   ·subst L; simp
   ·rw [d0 (λ q=>L (j7 q))]
    exact ⟨λ z=>by lia,λ z=>rfl⟩
 have B:(glN k (ns++[u])).getLast? = some (n - k) ↔ u=0:=by
  rw [uQ (by simp [hn,hk]),hn]
  by_cases D:u=0
  ·rw [c7 D,u8]; exact ⟨λ z=>D,λ z=>rfl⟩
  ·rw [d0 D,cN]
   exact ⟨λ q=>f8 (J _ (fX q)) (gV _),λ q=>f8 q D⟩
 have h4:(if contF (ns++[u],op)≠2/\contF (ns++[u],op)≠3/\0 < 0 then 4 else contF (ns++[u],op))=contF (ns++[u],op):=d0 λ q=>gV _ q.2.2
 unfold ends
 dsimp only
 rw [h4,c7 (decide_eq_decide.mpr (hc.trans B.symm))]
 congr 2
 by_cases D:u=0
 ·rw [c7 (B.mpr D),uQ (by simp [hn,hk]),c7 D,hn]
 ·rw [d0 (λ q=>D (B.mp q)),uQ (by simp [hn,hk]),d0 D,cN]
theorem qNn {ls:List (Ln)} {n:Nat} {R:Ln×Nat} (hL:Tx.Lines ls) (a5:ls≠[]) (hP:∀ c∈Tx.flat ls,qEq c) (a4:(Tx.flat ls).length<=998) (h:rd n (Tx.flat ls) [] [0] 0=some R) :
  R.1.length=ls.length+1/\(∀ v∈R.1,v<=2)/\R.1[0]? = some 0/\∀ k,k < ls.length->R.1[k]?≠some 2 ->
   study (lastp (four ((Tx.flat (ls.drop k)).map tr12)))=some (yG R.1 ls.length k,contF R)/\∀ M,scan 1000 .out (lastp (four ((Tx.flat (ls.drop k)).map tr12))) ⟨0,0,[0],0⟩=some M->M.gl≠[]:=by
 have hE:E10 (Tx.flat ls):=.inr (wU a5)
 obtain ⟨⟨t,ht,hb⟩,a1,a6⟩:=qCc n .out hE h
 have B:R.1.length=ls.length+1:=by rw [a1,vB hL]; exact u3 _ _
 have T:∀ v∈R.1,v<=2:=by
  intro v hv
  rw [ht] at hv
  rcases List.mem_append.mp hv with hv | hv
  ·rw [List.mem_singleton.mp hv]; exact m9 _
  ·exact hb v hv
 refine ⟨B,T,by rw [ht]; rfl,λ k hk aa=>?_⟩
 have a9:∃ U J,rd U (Tx.flat (ls.drop k)) [] (R.1.take (k+1)) J=some R:=by
  cases k with
  | zero=>exact ⟨n,0,by rw [lM,show R.1.take (0+1)=[0] by rw [ht]; rfl]; exact h⟩
  | succ k =>
   obtain ⟨v,hv⟩:∃ v,R.1[k+1]? = some v:=⟨_,n3 (by exact B ▸ k9 hk)⟩
   obtain ⟨U,done,l',J,e1,e2,e3⟩:=a6 (k+1) v (u9 (m9 _)) hv (λ q=>aa (by rw [hv,q]))
   have:=qPr hL e1 (k:=k) (fZ e2)
   exact ⟨U,J,by rw [← this]; exact e3⟩
 obtain ⟨U,J,a8⟩:=a9
 have a2:ls.drop k≠[]:=λ q=>by
  have:=g8 List.length q
  rw [u0,nV] at this; exact iH hk this
 have L:=wU a2
 have Y:Tx.flat (ls.drop k)≠[]:=λ q=>by rw [q] at L; cases L
 have X:(R.1.take (k+1)).length=k+1:=by rw [dS,B]; exact m_g5 hk
 have hm:=zQ (k:=k) (m:=⟨0,0,[0],0⟩) rfl U .out (.inr L) (λ c hc=>hP c (qKz hc)) a8 (λ q=>f8 rfl q) (λ q=>f8 q Y)
  ⟨rfl,by rw [X]; exact iX _,by unfold glN; rw [X,lR]; rfl,by rw [d0 λ q=>Y q.1]⟩
 rw [vI] at hm
 have V:isLine ((Tx.flat (ls.drop k)).map tr12):=by
  obtain ⟨u,hu⟩:=List.getLast?_eq_some_iff.mp L
  exact ⟨u.map tr12,by rw [hu,eH]; rfl⟩
 obtain ⟨s1,s2⟩:=qWj V (by rw [k0]; exact d5 qQq a4)
 refine ⟨?_,λ M hM=>?_⟩
 ·rw [s1,hm]
  obtain ⟨N,O⟩:=R
  obtain ⟨ns,D,rfl⟩:∃ ns D,N=ns++[D]:=by
   refine ⟨N.dropLast,N.getLast (λ q=>by rw [q] at B; cases B),(lG _).symm⟩
  have S:ns.length=ls.length:=by
   have:(ns++[D]).length=ls.length+1:=B
   rw [g7,k8] at this
   exact fZ this
  show ends ⟨0,(ns++[D]).length - (k+1),glN k (ns++[D]),_⟩=_
  have e1:(ns++[D]).length - (k+1)=ls.length - k:=by rw [g7,k8]; lia
  rw [e1,zIq S hk (T D (w7 _ (.head _)))]
  congr 2
  unfold glN yG zO
  rw [S,iV]
  congr 3
  refine List.filter_congr λ j hj=>?_
  have:=List.mem_range'_1.mp hj
  show (ns[j]? == some 0)=((ns++[D])[j]? == some 0)
  rw [t9 (by exact S ▸ n_rl this)]
 ·rw [s2,hm] at hM
  cases hM
  exact eA _ _
end Mine.Lake.L09
namespace Mine.Lake.Tx
noncomputable def addL (g:List (Ln)) (k:Nat):List (Ln):=g.dropLast++[g.getLastD []++[k]]
section
variable (W C:Nat->Bool)
noncomputable def gCol (k:Nat) (g:List (Ln)):List (Ln):=if C k=true then g++[[]] else g
def gWord (k:Nat) (g:List (Ln)):List (Ln):=if W k=true/\g≠[] then addL g k else g
def grp:Nat->List (Ln)
 | 0=>[]
 | k+1=>gWord W k (gCol C k (grp k))
noncomputable def everyW (n:Nat):Ln:=(lT n).filter W
variable (bar:Nat->Bool)
def freeW (n:Nat):Ln:=(everyW W n).filter λ k=>!bar k
noncomputable def opens (fr:Ln) (g:Ln):Bool:=match g with
 | []=>false
 | r::_=>fr.contains r
def numW (n:Nat):Option Nat :=
 if ((grp W C n).drop ((grp W C n).length - 5)).any (opens (freeW W bar n))=true then (freeW W bar n).getLast?
 else if opens (freeW W bar n) (everyW W n)=true then (everyW W n).head? else none
end
section
variable {W C bar:Nat->Bool} {ls:List (Ln)} {test:Nat->Unit->Bool×Unit}
theorem addL_app {g:List (Ln)} {x:Ln} {k:Nat}:addL (g++[x]) k=g++[x++[k]]:=by
 unfold addL
 rw [List.dropLast_concat,List.getLastD_concat]
set_option tactic.hygienic true in
theorem qQm:∀ (k:Nat),∀ g∈grp W C k,∀ r∈g,r < k/\W r=true
 | 0,g,h,_,_=>by cases h
 | k+1,g,h,r,hr=>by
  have B:=qQm k
  have u:∀ g∈gCol C k (grp W C k),∀ r∈g,r < k/\W r=true:=by
   unfold gCol
   intro g hg r hr
   split at hg
   ·rcases List.mem_append.mp hg with hg | hg
    ·exact B g hg r hr
    ·rw [List.mem_singleton.mp hg] at hr; cases hr
   ·exact B g hg r hr
  have h':g∈gWord W k (gCol C k (grp W C k)):=h
  unfold gWord at h'
  generalize gCol C k (grp W C k)=G at u h'
  split at h'
  ·rename_i hw
   rcases List.mem_append.mp h' with h' | h'
   ·have:=u g (List.dropLast_subset _ h') r hr
    exact ⟨k9 this.1,this.2⟩
   ·rw [List.mem_singleton.mp h'] at hr
    rcases List.mem_append.mp hr with hr | hr
    ·have D:G.getLastD []∈G:=by
      rw [List.getLastD_eq_getLast?,dW hw.2]
      exact List.getLast_mem hw.2
     have:=u _ D r hr
     exact ⟨k9 this.1,this.2⟩
    ·rw [List.mem_singleton.mp hr]; exact ⟨n5 _,hw.1⟩
  ·have:=u g h' r hr
   exact ⟨k9 this.1,this.2⟩
noncomputable def zBo:Nat->Option Nat
 | 0=>none
 | k+1=>if C k=true then some k else zBo k
theorem qQl:∀ (k:Nat),match zBo (C:=C) k with
  | none=>grp W C k=[]
  | some j=>j < k/\grp W C k=grp W C j++[(m4 j (k - j)).filter W]
 | 0=>rfl
 | k+1=>by
  have u:=qQl k
  have e:grp W C (k+1)=gWord W k (gCol C k (grp W C k)):=rfl
  unfold zBo
  by_cases hc:C k=true
  ·rw [c7 hc]
   refine ⟨n5 _,?_⟩
   rw [e]
   unfold gCol gWord
   rw [c7 hc,v3]
   by_cases hw:W k=true
   ·rw [c7 ⟨hw,by simp⟩,addL_app]
    show _=grp W C k++[oK W [k]]
    rw [u7 hw]; rfl
   ·rw [d0 λ q=>hw q.1]
    show _=grp W C k++[oK W [k]]
    rw [cO hw]; rfl
  ·rw [d0 hc,e]
   unfold gCol
   rw [d0 hc]
   cases hj:zBo (C:=C) k with
   | none =>
    rw [hj] at u
    show gWord W k (grp W C k)=[]
    rw [show grp W C k=[] from u]
    exact d0 λ q=>q.2 rfl
   | some j =>
    rw [hj] at u
    refine bC λ D=>?_
    obtain ⟨B,h2⟩:=u
    refine D ?_
    refine ⟨k9 B,?_⟩
    have e2:(m4 j (k+1 - j)).filter W=(m4 j (k - j)).filter W++if W k=true then [k] else []:=by
     have:k+1 - j=(k - j)+1:=by exact mQ (n1 B)
     rw [this,List.range'_concat,gM]
     have:j+1 * (k - j)=k:=by exact n_f1 B
     rw [this]
     congr 1
     by_cases hw:W k=true
     ·rw [c7 hw,u7 hw]; rfl
     ·rw [d0 hw,cO hw]; rfl
    rw [h2,e2]
    unfold gWord
    by_cases hw:W k=true
    ·rw [c7 ⟨hw,by simp⟩,addL_app,c7 hw]
    ·rw [d0 λ q=>hw q.1,d0 hw,cN]
noncomputable def qGn (bar:Nat->Bool) (g:Ln):Option Nat:=g.head?.bind λ r=>if bar r=true then none else some r
def wordB (ls:List (Ln)) (k:Nat):Bool:=(zC ls k).isSome
theorem qRb:∀ k,jF ls k=zBo (C:=colonAt ls) k
 | 0=>rfl
 | k+1=>by
  show (if colonAt ls k=true then some k else jF ls k)=_
  rw [qRb k]; rfl
theorem qCk:∀ n a,(zE ls n a).map (·.1)=((m4 a n).filter (wordB ls)).head?
 | 0,a=>rfl
 | n+1,a=>by
  rw [iW]
  have e:zE ls (n+1) a=match zC ls a with
   | some e=>some (a,e)
   | none=>zE ls n (a+1):=rfl
  rw [e]
  cases hw:zC ls a with
  | some e =>
   rw [u7 (by unfold wordB; rw [hw]; rfl)]; rfl
  | none =>
   rw [cO (by unfold wordB; rw [hw]; decide)]
   exact qCk n (a+1)
theorem qPk (u:∀ r,r < ls.length->(test (stA ls r) ()).1=bar r):∀ (n k:Nat),k<=ls.length->(vF ls test n k ()).1=((grp (wordB ls) (colonAt ls) k).reverse.take n).findSome? (qGn bar)
 | 0,k,_=>by rw [oT]; rfl
 | n+1,k,hk=>by
  have hg:=qQl (W:=wordB ls) (C:=colonAt ls) k
  rw [← qRb] at hg
  have e:vF ls test (n+1) k ()=match jF ls k with
   | none=>(none,())
   | some j=>match zE ls (k - j) j with
    | none=>vF ls test n j ()
    | some (r,_)=>if (test (stA ls r) ()).1=true then vF ls test n j () else (some r,(test (stA ls r) ()).2):=rfl
  rw [e]
  cases hj:jF ls k with
  | none =>
   rw [hj] at hg
   rw [show grp (wordB ls) (colonAt ls) k=[] from hg]; rfl
  | some j =>
   rw [hj] at hg
   obtain ⟨B,h2⟩:=hg
   rw [h2,List.reverse_append,List.reverse_singleton,List.singleton_append,dE,List.findSome?_cons,← qPk u n j (by exact d5 (n1 B) hk)]
   have hw:=qCk (ls:=ls) (k - j) j
   unfold qGn
   rw [← hw]
   dsimp only
   cases D:zE ls (k - j) j with
   | none=>rfl
   | some x =>
    obtain ⟨r,w⟩:=x
    obtain ⟨L,J,S,O⟩:=xY D
    have hr:r < ls.length:=by exact n_f2 hk B J
    dsimp only [fU,Option.bind]
    rw [u r hr]
    cases bar r <;> rfl
theorem qDr (u:∀ r,r < ls.length->(test (stA ls r) ()).1=bar r):∀ (n a pos:Nat),a+n<=ls.length->(xU ls test n a pos ()).1=(((m4 a n).filter (wordB ls)).filter λ k=>!bar k).getLast?.getD pos
 | 0,a,pos,_=>rfl
 | n+1,a,pos,h=>by
  have e:xU ls test (n+1) a pos ()=match zC ls a with
   | none=>xU ls test n (a+1) pos ()
   | some _=>xU ls test n (a+1) (if (test (stA ls a) ()).1=true then pos else a) (test (stA ls a) ()).2:=rfl
  rw [e,iW]
  cases hw:zC ls a with
  | none =>
   rw [cO (by unfold wordB; rw [hw]; decide)]
   exact qDr u n (a+1) pos (by exact m_g6 h)
  | some w =>
   rw [u7 (by unfold wordB; rw [hw]; rfl)]
   dsimp only
   rw [u a (by exact w8 h),show (test (stA ls a) ()).2=() from rfl,qDr u n (a+1) _ (by exact m_g6 h)]
   cases B:bar a with
   | true=>rw [cO (by rw [B]; decide)]; rfl
   | false =>
    rw [u7 (by rw [B]; rfl),lZ]
    cases (((m4 (a+1) n).filter (wordB ls)).filter λ k=>!bar k).getLast? <;> rfl
theorem mem_free {W bar:Nat->Bool} {n r:Nat}:r∈freeW W bar n ↔ r < n/\W r=true/\bar r=false:=by
 unfold freeW everyW
 rw [List.mem_filter,List.mem_filter,List.mem_range,dO,and_assoc]
theorem qAh {W bar:Nat->Bool} {n:Nat} {g:Ln} (hg:∀ r∈g,r < n/\W r=true):opens (freeW W bar n) g=(qGn bar g).isSome:=by
 cases g with
 | nil=>rfl
 | cons r g =>
  have h:=hg r (.head _)
  show (freeW W bar n).contains r=((if bar r=true then none else some r:Option Nat)).isSome
  cases u:bar r with
  | true =>
   have:r ∉ freeW W bar n:=λ q=>by have:=(mem_free.mp q).2.2; rw [u] at this; exact zT1 this
   rw [fY,r5 this]; rfl
  | false =>
   have:r∈freeW W bar n:=mem_free.mpr ⟨h.1,h.2,u⟩
   rw [fY,h8 this]; rfl
theorem qTv {g:Ln} {r:Nat} (h:qGn bar g=some r):r∈g/\bar r=false:=by
 cases g with
 | nil=>exact zN1 h
 | cons a g =>
  have h':(if bar a=true then none else some a)=some r:=h
  cases u:bar a with
  | true=>rw [u] at h'; cases h'
  | false=>rw [u] at h'; cases h'; exact ⟨.head _,u⟩
theorem find_number (L:∀ r,r < ls.length->(test (stA ls r) ()).1=bar r):(findG ls test ()).1=numW (wordB ls) (colonAt ls) bar ls.length:=by
 have O:=qPk L 5 ls.length (d7 _)
 have B:=qQm (W:=wordB ls) (C:=colonAt ls) ls.length
 have J:((grp (wordB ls) (colonAt ls) ls.length).drop ((grp (wordB ls) (colonAt ls) ls.length).length - 5)).any (opens (freeW (wordB ls) bar ls.length))=(((grp (wordB ls) (colonAt ls) ls.length).reverse.take 5).findSome? (qGn bar)).isSome:=by
  rw [List.take_reverse]
  refine Bool.eq_iff_iff.mpr ?_
  rw [List.any_eq_true,List.findSome?_isSome_iff]
  constructor
  ·rintro ⟨g,hg,h⟩
   exact ⟨g,List.mem_reverse.mpr hg,by rw [← qAh (n:=ls.length) (W:=wordB ls) (B g (eK hg))]; exact h⟩
  ·rintro ⟨g,hg,h⟩
   have hg:=List.mem_reverse.mp hg
   exact ⟨g,hg,by rw [qAh (B g (eK hg))]; exact h⟩
 unfold findG numW
 rw [J]
 cases T:vF ls test 5 ls.length () with
 | mk o u =>
 rw [T] at O
 rw [← show o=_ from O]
 cases o with
 | none =>
  rw [zX1]
  show (qAp ls test u).1=_
  have V:everyW (wordB ls) ls.length=(m4 0 ls.length).filter (wordB ls):=by unfold everyW; rw [lD]
  have hw:=qCk (ls:=ls) ls.length 0
  rw [← V] at hw
  have D:=qAh (W:=wordB ls) (bar:=bar) (n:=ls.length) (g:=everyW (wordB ls) ls.length) (λ r hr=>by
   have:=List.mem_filter.mp hr
   exact ⟨List.mem_range.mp this.1,this.2⟩)
  unfold qGn at D
  rw [← hw] at D ⊢
  rw [D]
  unfold qAp
  cases U:zE ls ls.length 0 with
  | none=>rfl
  | some x =>
   obtain ⟨r,w⟩:=x
   obtain ⟨Y,w2,w3,w4⟩:=xY U
   dsimp only [fU,Option.bind]
   rw [show u=() from rfl,L r (by simp_all)]
   have S:∀ b:Bool,(if b=true then none else some r:Option Nat)=if (if b=true then none else some r:Option Nat).isSome=true then some r else none:=λ b=>by cases b <;> rfl
   exact S (bar r)
 | some r =>
  rw [c7 (show (some r).isSome=true from rfl)]
  show some (xU ls test (ls.length - (r+1)) (r+1) r u).1=_
  obtain ⟨g,hg,hr⟩:=List.exists_of_findSome?_eq_some O.symm
  obtain ⟨X,h2⟩:=qTv hr
  have h3:=B g (List.mem_reverse.mp (iZ hg)) r X
  rw [show u=() from rfl,qDr L _ _ _ (by lia)]
  have e:freeW (wordB ls) bar ls.length=((m4 0 r).filter (wordB ls)).filter (λ k=>!bar k)++(r::(((m4 (r+1) (ls.length - (r+1))).filter (wordB ls)).filter λ k=>!bar k)):=by
   unfold freeW everyW
   have:lT ls.length=m4 0 r++(r::m4 (r+1) (ls.length - (r+1))):=by
    rw [lD,← iW]
    have:=List.range'_append (s:=0) (m:=r) (n:=ls.length - (r+1)+1) (step:=1)
    rw [iX,mC] at this
    rw [this]
    congr 1; lia
   rw [this,gM,gM,u7 h3.2,u7 (by rw [h2]; rfl)]
  rw [e,lC,lZ]
  rfl
end
end Mine.Lake.Tx
namespace Mine.Lake.Tx
open PySem PySem.Sre Mine.Lake.Re
def fword (l:Ln):Ln:=(l.drop (leadB l)).takeWhile i6
noncomputable def words6:List (Ln):=[[100,101,102],[101,108,115,101],[116,114,121],[114,101,116,117,114,110],[105,109,112,111,114,116],[99,108,97,115,115]]
noncomputable def badP:List (Nat×Nat):=[(101,114),(99,111),(108,105),(101,120),(114,97),(121,105)]
noncomputable def nb:Ln->Bool
 | []=>true
 | c::l=>c != 98 && c != 119 && c != 95 && (match l with | []=>true | d::_=>!badP.contains (c,d)) && nb l
noncomputable def safeE (c:Nat):Bool:=c != 101 && c != 99 && c != 108 && c != 114 && c != 121
theorem zRv:i6 10=false:=by decide +kernel
theorem zCi:∀ w∈words1,w≠[]/\∀ c∈w,i6 c=true:=by
 have:words1.all (λ w=>!w.isEmpty && w.all i6)=true:=by decide +kernel
 intro w hw
 have:=List.all_eq_true.mp this w hw
 rw [d8,dO,mB,fQ] at this
 exact this
theorem six:∀ w∈words1,nb w=true->w∈words6:=by decide +kernel
theorem zQn:∀ w∈words6,w∈words1:=by decide +kernel
theorem qDm:∀ {a b:Ln},nb (a++b)=true->nb b=true
 | [],_,h=>h
 | c::a,b,h=>by
  have h':(_ && nb (a++b))=true:=h
  rw [d8] at h'
  exact qDm h'.2
theorem qHy:∀ {a b:Ln},nb (a++b)=true->nb a=true
 | [],_,_=>rfl
 | [c],b,h=>by
  have h':(c != 98 && c != 119 && c != 95 && _ && nb b)=true:=h
  show (c != 98 && c != 119 && c != 95 && true && true)=true
  simp only [d8] at h' ⊢
  exact ⟨⟨h'.1.1,trivial⟩,trivial⟩
 | c::d::a,b,h=>by
  have h':(c != 98 && c != 119 && c != 95 && (!badP.contains (c,d)) && nb (d::a++b))=true:=h
  show (c != 98 && c != 119 && c != 95 && (!badP.contains (c,d)) && nb (d::a))=true
  rw [d8] at h' ⊢
  exact ⟨h'.1,qHy h'.2⟩
theorem qSr {c d:Nat} (h:safeE c=true):badP.contains (c,d)=false:=by
 unfold safeE at h
 simp only [d8,iP] at h
 obtain ⟨⟨⟨⟨u,h2⟩,h3⟩,h4⟩,h5⟩:=h
 rw [fY]
 refine r5 λ q=>?_
 unfold badP at q
 simp only [pL,Prod.mk.injEq,eX,or_false] at q
 rcases q with q | q | q | q | q | q
 ·exact u q.1
 ·exact h2 q.1
 ·exact h3 q.1
 ·exact u q.1
 ·exact h4 q.1
 ·exact h5 q.1
theorem nb_app:∀ {a b:Ln},nb a=true->nb b=true->(∀ c,a.getLast? = some c->safeE c=true)->nb (a++b)=true
 | [],_,_,h,_=>h
 | [c],[],h,_,_=>h
 | [c],d::b,h,hb,hs=>by
  have h':(c != 98 && c != 119 && c != 95 && true && true)=true:=h
  show (c != 98 && c != 119 && c != 95 && (!badP.contains (c,d)) && nb (d::b))=true
  rw [qSr (hs c rfl),hb]; exact h'
 | c::d::a,b,h,hb,hs=>by
  have h':(c != 98 && c != 119 && c != 95 && (!badP.contains (c,d)) && nb (d::a))=true:=h
  show (c != 98 && c != 119 && c != 95 && (!badP.contains (c,d)) && nb (d::a++b))=true
  rw [d8] at h' ⊢
  exact ⟨h'.1,nb_app h'.2 hb λ e u=>hs e (by rw [mY]; exact u)⟩
theorem qYo:∀ {l:Ln} {c:Nat},nb l=true->c∈l->c≠95
 | c::l,_,h,.head _=>by
  have h':(c != 98 && c != 119 && c != 95 && _ && nb l)=true:=h
  simp only [d8,iP] at h'
  exact h'.1.1.2
 | c::l,d,h,.tail _ hm=>by
  have h':(_ && nb l)=true:=h
  rw [d8] at h'
  exact qYo h'.2 hm
theorem qKg:∀ {w r:Ln},(∀ c∈w,i6 c=true)->((kI w r=true/\i6 ((r++[10]).getD w.length 0)=false) ↔ r.takeWhile i6=w)
 | [],[],_=>⟨λ z=>rfl,λ z=>⟨rfl,zRv⟩⟩
 | [],c::r,_=>by
  show (true=true/\i6 c=false) ↔ _
  rw [gL]
  by_cases h:i6 c=true
  ·rw [c7 h,h]; exact ⟨λ q=>(by cases q.2),λ q=>(by cases q)⟩
  ·rw [d0 h]; exact ⟨λ z=>rfl,λ z=>⟨rfl,by simpa using h⟩⟩
 | d::w,[],_=>⟨λ q=>(by cases q.1),λ q=>(by cases q)⟩
 | d::w,c::r,h=>by
  have u:=qKg (w:=w) (r:=r) λ c hc=>h c (.tail _ hc)
  have hd:=h d (.head _)
  have e1:kI (d::w) (c::r)=(c == d && kI w r):=rfl
  have e2:(c::r++[10]).getD (d::w).length 0=(r++[10]).getD w.length 0:=rfl
  rw [e1,e2,gL,d8,and_assoc,u,j8]
  by_cases hc:c=d
  ·subst hc
   rw [c7 hd]
   exact ⟨λ q=>by rw [q.2],λ q=>⟨rfl,(j5 q).2⟩⟩
  ·constructor
   ·exact λ q=>f8 q.1 hc
   ·intro q
    split at q
    ·exact f8 (j5 q).1 hc
    ·cases q
theorem qDv:∀ {w r:Ln},kI w r=true->w≠[]->r.getD (w.length - 1) 0∈w
 | [],_,_,h=>f8 rfl h
 | [d],c::r,h,_=>by
  have h':(c == d && true)=true:=h
  rw [iS,j8] at h'
  show c∈[d]
  rw [h']; exact .head _
 | [d],[],h,_=>zF1 h
 | d::e::w,[],h,_=>zF1 h
 | d::e::w,c::r,h,_=>by
  have h':(c == d && kI (e::w) r)=true:=h
  rw [d8] at h'
  exact .tail _ (qDv h'.2 (eA _ _))
theorem qJl {l:Ln} (hn:nb l=true) {i:Nat} (hi:i<=l.length):∀ ws:List (Ln),(∀ w∈ws,w≠[]/\∀ c∈w,i6 c=true)->(yA l 10 i ws).isSome=ws.contains ((l.drop i).takeWhile i6)
 | [],_=>rfl
 | w::ws,h=>by
  obtain ⟨L,h2⟩:=h w (.head _)
  have J:=qJl hn hi ws λ w hw=>h w (.tail _ hw)
  have hp:=qKg (r:=l.drop i) h2
  have e1:(l.drop i++[10]).getD w.length 0=(l++[10]).getD (i+w.length) 0:=by
   rw [show l.drop i++[10]=(l++[10]).drop i by rw [lA hi]]
   rw [m3,eB,m3]
  have e2:kI w (l.drop i)=true->isWordUni ((l++[10]).getD (i+w.length - 1) 0)=true:=by
   intro q
   have O:=qDv q L
   have B:0 < w.length:=List.length_pos_iff.mpr L
   have D:=uN q
   rw [u0] at D
   have:(l.drop i).getD (w.length - 1) 0=(l++[10]).getD (i+w.length - 1) 0:=by
    rw [m3,eB,m3,t9 (by exact n_f3 B D)]
    congr 2; exact nA (Nat.add_sub_assoc B _)
   rw [← this]
   show (i6 _ || _)=true
   rw [h2 _ O]; rfl
  have e3:kI w (l.drop i)=true->isWordUni ((l++[10]).getD (i+w.length) 0)=i6 ((l++[10]).getD (i+w.length) 0):=by
   intro q
   show (i6 _ || _ == 95)=_
   have:(l++[10]).getD (i+w.length) 0≠95:=by
    rw [m3]
    cases hg:(l++[10])[i+w.length]? with
    | none=>decide
    | some c =>
     have:=lB hg
     rcases List.mem_append.mp this with m | m
     ·exact qYo hn m
     ·rw [List.mem_singleton.mp m]; decide
   rw [beq_eq_false_iff_ne.mpr this,Bool.or_false]
  rw [zCn]
  rw [List.contains_cons]
  rw [e1] at hp
  cases u:kI w (l.drop i) with
  | false =>
   rw [u] at hp
   have:((l.drop i).takeWhile i6 == w)=false:=beq_eq_false_iff_ne.mpr λ z=>by have:=(hp.mpr z).1; exact zF1 this
   rw [this,Bool.false_or,← J]; rfl
  | true =>
   rw [e2 u,e3 u]
   rw [u] at hp
   cases ha:i6 ((l++[10]).getD (i+w.length) 0) with
   | true =>
    rw [ha] at hp
    have:((l.drop i).takeWhile i6 == w)=false:=beq_eq_false_iff_ne.mpr λ z=>by have:=(hp.mpr z).2; exact zT1 this
    rw [this,Bool.false_or,← J]; rfl
   | false =>
    rw [ha] at hp
    have:((l.drop i).takeWhile i6 == w)=true:=beq_iff_eq.mpr (hp.mp ⟨rfl,rfl⟩)
    rw [this]; rfl
theorem wordB_is {ls:List (Ln)} {k:Nat} {l:Ln} (hk:ls[k]? = some l) (hn:nb l=true):wordB ls k=words6.contains (fword l):=by
 unfold wordB zC
 rw [hk]
 show (yA l 10 (leadB l) words1).isSome=_
 rw [qJl hn (uK l) words1 zCi]
 refine Bool.eq_iff_iff.mpr ?_
 rw [oA,oA]
 refine ⟨λ h=>six _ h ?_,λ h=>zQn _ h⟩
 have e1:l=l.take (leadB l)++(fword l++(l.drop (leadB l)).dropWhile i6):=by
  unfold fword
  rw [iF,v0]
 rw [e1] at hn
 exact qHy (qDm hn)
theorem nb_row {ls:List (Ln)} {k:Nat} {l:Ln} (hk:ls[k]? = some l) (hn:nb (flat ls)=true):nb l=true:=by
 obtain ⟨h,rfl⟩:=List.getElem?_eq_some_iff.mp hk
 rw [flat_split h] at hn
 exact qHy (qDm hn)
end Mine.Lake.Tx
namespace Mine.Lake.L09
open PySem PySem.W PyProof.Rows Mine.Lake Mine.Lake.Rp Mine.Lake.Re MineTop
section
variable {pp:bA} {n k d:Nat} {H:Hp} {fs:xE} {Z:St} {j:Nat} {H':Hp} {a0 a7:St} {x:Str} {iw tw:Int} {c:Nat}
theorem bT:Bx (G09 pp) (T pp n):=qEk n
theorem qBf:∀ n,(T pp n).calm=false
 | 0=>rfl
 | 1=>rfl
 | _+2=>rfl
theorem qPf {i:String} {args:List V}:∀ n,(T pp n).app (.top (.type i)) args H=tapp i args H
 | 0=>rfl
 | 1=>rfl
 | _+2=>rfl
theorem qCv {args:List V}:tapp "range" args H=qAe args H:=by
 unfold tapp
 rw [c7 rfl]
theorem zLo {a:Int}:qAe [.int a] H=if Builtin.Range.small 0 a 1=true then okH (.rng 0 a 1) H else .bad:=rfl
theorem zLn {a b:Int}:qAe [.int a,.int b] H=if Builtin.Range.small a b 1=true then okH (.rng a b 1) H else .bad:=rfl
theorem jC {cx:Sx} (B:Bx (G09 pp) cx) {o m:Str} {i:String} (u:qW m=some i):cx.get (.str o) m H=some (.top (.builtin i),[.str o]):=by
 rw [B.get]
 have e:qUa (G09 pp) (.str o) m H=(qW m).map λ i=>(V.top (.builtin i),[V.str o]):=rfl
 rw [e,u]; rfl
theorem zHm:qW "rfind" = some "str.rfind" := by unfold qW; rw [zX1,c7 rfl]
theorem zJh {args:List V} (n:Nat):(T pp n).app (.top (.ref 48)) args H=xJ args H:=by
 have u:∀ r:Rs V,(if (48:Nat)=48 then xJ args H else r)=xJ args H:=λ r=>c7 rfl
 match n with
 | 0=>exact u (noF 48 args H)
 | 1=>exact u (zH rows09 (T pp 0) 48 args H)
 | n+2=>exact u (qGd (G09 pp) (zH rows09 (T pp n) 137) (zH rows09 (T pp (n+1))) 48 args H)
theorem zHk:vQ "start" = some "re.Match.start" := by unfold vQ; rw [c7 rfl]
theorem zNj:vQ "span" = some "re.Match.span" := by unfold vQ; rw [zX1,c7 rfl]
theorem qZu {p e:Nat} {m:Str} {i:String} (h:vQ m=some i):(T pp n).get (.mt p e) m H=some (.top (.builtin i),[.mt p e]):=by
 rw [bT.get]
 show fU (λ i:String=>(V.top (.builtin i),[V.mt p e])) (vQ m)=_
 rw [h]; rfl
theorem zRu (n:Nat):Tx.Bs (T pp n) where
 calm:=qBf n
 len:=by rw [bT.gl]; rfl
 rng:=by rw [bT.gl]; rfl
 syn:=⟨48,by rw [bT.gl]; rfl,λ args H=>zJh n⟩
 b:=λ i args H=>bT.bl i args H
 t:=λ i args H=>qPf n
 gs:=λ x H=>jC bT zHm
 g1:=λ p e H=>qZu zHk
 g2:=λ p e H=>qZu zNj
theorem zAg {M:Type} {I:Nat->M->Hp->Prop} {test:Nat->M->Bool×M} {m:M} {vt:V} {ls:List (Ln)} (Tk:Tx.TestOk (T pp n) vt I test) (hL:Tx.Lines ls) (u:(Tx.flat ls).length<=g0) (hn:ls.length < 1000)
  (B:PO H k d fs) (hc:fs.lookup ("code" : Str)=some (.str (Tx.txt ls))) (D:I (ls.length+1+5) m H) :
  ∃ Z',(T pp (n+1)).app (.top (.ref 151)) [.ref k,vt] H=.ok (Tx.rowV ls (Tx.findG ls test m).1) Z'/\I 0 (Tx.findG ls test m).2 Z'.toHp:=by
 obtain ⟨f,Z',e,rfl,h2⟩:=Tx.find_run (Z:=entry ((["self", "is_char_in_string"]:List Str).zip [.ref k,vt]) H) (k:=k) (vt:=vt) Tk (zRu n) hL u hn rfl rfl (B.fld bT (by decide) hc rfl) D
 refine ⟨Z',?_,h2⟩
 rw [uZ (by decide)]
 exact qCb (by rfl) rfl e rfl
theorem zJj {ps:List Str} {x:X} {cs:List (Str×Nat)} {args:List V}:∀ n,(T pp (n+1)).app (.clo ps x cs) args H=jY ps x cs (T pp n).toCx args H
 | 0=>rfl
 | _+1=>rfl
theorem qCp {v:V} {all:List V} {f:V->St->Rs (Option V)} {g:V->Option V} {H:Hp} (hi:zV H v=some all):∀ {l:List V} {Z:St},Z.toHp=H->(∀ y∈l,∀ Z:St,Z.toHp=H->∃ Z',f y Z=.ok (g y) Z'/\Z'.toHp=H)->∃ Z',turns v all f l Z=.ok (l.filterMap g) Z'/\Z'.toHp=H
 | [],Z,hσ,_=>⟨Z,by rw [qBx,c7 (by rw [hσ]; exact hi)]; rfl,hσ⟩
 | y::r,Z,hσ,h=>by
  obtain ⟨u,e1,D⟩:=h y (.head _) Z hσ
  obtain ⟨B,e2,h2⟩:=qCp hi (l:=r) D λ z J=>h z (.tail _ J)
  refine ⟨B,?_,h2⟩
  rw [qBy]
  rw [c7 (by rw [hσ]; exact hi),e1]
  show (turns v all f r u).bind _=_
  rw [e2]
  show Rs.ok _ _=_
  rw [lI]
  cases g y <;> rfl
theorem qVx {cx:Cx} (hc:cx.calm=false) {elt it cond:X} {x:Str} {u:V} {xs:List V} (g:V->Option V) (hi:ev cx it Z=.ok u Z) (hx:zV Z.toHp u=some xs)
  (hg:∀ y∈xs,(ev cx cond ⟨Z.toHp,[(x,y)],Z.cel,none⟩).bind (λ b aG=>qBc b aG (ev cx elt))=.ok (g y) ⟨Z.toHp,[(x,y)],Z.cel,none⟩) (hn:(xs.filterMap g).length<=g0) :
  ev cx (.comp elt x it cond) Z=.ok (.list (xs.filterMap g)) Z:=by
 obtain ⟨B,e2,h2⟩:=qCp (f:=λ v a7=>(ev cx cond { a7 with loc:=[(x,v)],cel:=Z.cel,tbl:=none }).bind λ b aG=>qBc b aG (ev cx elt)) (g:=g) hx (l:=xs) (Z:=Z) rfl (λ y hy Z' h'=>⟨⟨Z.toHp,[(x,y)],Z.cel,none⟩,by
  have:({ Z' with loc:=[(x,y)],cel:=Z.cel,tbl:=none }:St)=⟨Z.toHp,[(x,y)],Z.cel,none⟩:=by rw [← h']
  show (ev cx cond { Z' with loc:=[(x,y)],cel:=Z.cel,tbl:=none }).bind _=_
  rw [this]; exact hg y hy,rfl⟩)
 rw [zAl,d0 (by rw [hc]; decide),Rs.bind_ok hi,hx]
 show (turns u xs _ xs Z).bind _=_
 rw [e2]
 show fits _ (Rs.ok _ { Z with toHp:=B.toHp })=_
 unfold fits
 rw [c7 hn,h2]
theorem qHd {cx:Cx} (hc:cx.calm=false) {elt it:X} {x:Str} {u:V} {xs:List V} (g:V->V) (hi:ev cx it Z=.ok u Z) (hx:zV Z.toHp u=some xs)
  (hg:∀ y∈xs,ev cx elt ⟨Z.toHp,[(x,y)],Z.cel,none⟩=.ok (g y) ⟨Z.toHp,[(x,y)],Z.cel,none⟩) (hn:xs.length<=g0) :
  ev cx (.comp elt x it (.bool true)) Z=.ok (.list (xs.map g)) Z:=by
 have h:=qVx hc (elt:=elt) (cond:=.bool true) (λ y=>some (g y)) hi hx (λ y hy=>by
  show (ev cx elt _).bind _=_
  rw [hg y hy]; rfl) (by rw [nO]; rw [k0]; exact hn)
 rw [nO] at h
 exact h
structure Kept (H H':Hp) (d:Nat):Prop where
 nxt:H.nxt<=H'.nxt
 same:∀ i,i < H.nxt->i≠d->H'.obj i=H.obj i
theorem Kept.refl:Kept H H d:=⟨d7 _,λ q q q=>rfl⟩
theorem Kept.put {H':Hp} (h:Kept H H' d) {o:O}:Kept H (hput H' d o) d:=⟨h.nxt,λ i hi hd=>(qH hd).trans (h.same i hi hd)⟩
theorem Kept.new {H':Hp} (h:Kept H H' d) {o:O} (hj:H.nxt<=j):Kept H (hput H' j o) d:=⟨h.nxt,λ i hi hd=>(qH (r9 (m0 hi hj))).trans (h.same i hi hd)⟩
theorem Kept.add {H':Hp} (h:Kept H H' d) {o:O}:Kept H (Hp.add H' o) d:=⟨j6 h.nxt,λ i hi hd=>(d0 (r9 (m0 hi h.nxt))).trans (h.same i hi hd)⟩
theorem Kept.trans {H' H'':Hp} (h:Kept H H' d) (h':Kept H' H'' d):Kept H H'' d:=⟨d5 h.nxt h'.nxt,λ i hi hd=>(h'.same i (m0 hi h.nxt) hd).trans (h.same i hi hd)⟩
theorem qOf {D L:O}:Kept H (grown H d D L) d:=⟨dY _,λ i hi hd=>(d0 (r9 hi)).trans (d0 hd)⟩
structure Std (H:Hp) (k d:Nat) (iw tw:Int) (x:Str) (gl:Ln) (c:Nat) (fs:xE):Prop where
 po:PO H k d fs
 st:∃ j,FsS fs iw tw x 1 j c/\H.obj j=some (.list (natsV gl))/\j≠d/\j < H.nxt
 k:k < H.nxt
 d:d < H.nxt
theorem yX {gl:Ln} (h:Ready H k d fs iw tw x gl c):Std (grown H d (.dict (stud fs H.nxt c)) (.list (natsV gl))) k d iw tw x gl c (stud fs H.nxt c) :=
 ⟨qZo h.po h.k h.d,⟨H.nxt,zDd (j:=H.nxt) (c:=c) h.fs,c7 rfl,v9 h.d,n5 _⟩,k9 h.k,k9 h.d⟩
theorem qZp {gl:Ln} (h:Ready H k d fs iw tw x gl c):∃ Z',(T pp (n+2)).app (.top (.ref 172)) [.ref k] H=.ok (.int (c:Nat)) Z'/\Kept H Z'.toHp d/\∃ fs',Std Z'.toHp k d iw tw x gl c fs':=by
 obtain ⟨Z',e,w⟩:∃ Z',(T pp (n+2)).app (.top (.ref 172)) [.ref k] H=.ok (.int (c:Nat)) Z'/\Z'.toHp=grown H d (.dict (stud fs H.nxt c)) (.list (natsV gl)):=by
  refine qEo (· = grown H d (.dict (stud fs H.nxt c)) (.list (natsV gl))) (by decide) (by rfl) rfl λ Z J h2=>?_
  have u:Z.loc.lookup ("self" : Str)=some (.ref k):=by rw [J]; rfl
  subst h2
  obtain ⟨a7,D,L⟩:=qRt (pp:=pp) (n:=n) h
  unfold qOh
  refine xI (xM (qB u) (h.po.get bT (h.fs.kx.meth (by decide)) (by rfl)) (xs:=[]) rfl D) ?_
  rw [L]
  have B:=yX h
  obtain ⟨j,O,_⟩:=B.st
  exact qD (kL (yI (qB u) (B.po.fld bT (by decide) O.cont rfl)) ⟨rfl,rfl⟩)
 exact ⟨Z',e,by rw [w]; exact qOf,stud fs H.nxt c,by rw [w]; exact yX h⟩
noncomputable def fs2 (iw tw:Int):xE:=[("indentwidth", .int iw),("tabwidth", .int tw)]
theorem zAb {iw tw:Int}:FsI (fs2 iw tw) iw tw:=⟨⟨2,d7 _,by decide,by show (["indentwidth", "tabwidth"]:List Str)=_; decide +kernel⟩,rfl,rfl⟩
theorem qZj {k d:Nat} {iw tw:Int} (D:PO H k d []):∃ Z',zH rows09 (T pp n) 137 [.ref k,.int iw,.int tw] H=.ok .none Z'/\Z'.toHp=hput H d (.dict (fs2 iw tw)):=by
 have u:∀ Z:St,Z.loc=(["self", "indentwidth", "tabwidth"]:List Str).zip [.ref k,.int iw,.int tw]->Z.toHp=H->Gd (ex qIj (T pp n) Z) λ f Z'=>f=.next/\Z'.toHp=hput H d (.dict (fs2 iw tw)):=by
  intro Z B h4
  have J:Z.loc.lookup ("self" : Str)=some (.ref k):=by rw [B]; rfl
  have h2:Z.loc.lookup ("indentwidth" : Str)=some (.int iw):=by rw [B]; rfl
  have h3:Z.loc.lookup ("tabwidth" : Str)=some (.int tw):=by rw [B]; rfl
  rw [← h4] at D ⊢
  unfold qIj
  refine qD (jN (qB h2) (qB J) (D.setA bT (by decide) (m9 _)) ?_)
  have h5:({ Z with toHp:=hput Z.toHp d (.dict (setF "indentwidth" (.int iw) [])) }:St).loc.lookup ("self" : Str)=some (.ref k):=J
  have L:({ Z with toHp:=hput Z.toHp d (.dict (setF "indentwidth" (.int iw) [])) }:St).loc.lookup ("tabwidth" : Str)=some (.int tw):=h3
  refine qD (jN (qB L) (qB h5) ((D.put (fs':=setF "indentwidth" (.int iw) [])).setA bT (by decide) (by show 1<=100; decide)) (gd_nil ⟨rfl,?_⟩))
  exact qQj
 obtain ⟨f,Z',e,rfl,e2⟩:=u (entry _ H) rfl rfl
 exact ⟨Z',qCb (by rfl) rfl e rfl,e2⟩
theorem qYt {iw tw:Int}:∃ Z',(T pp (n+2)).app (.top (.ref 231)) [.int iw,.int tw] H=.ok (.ref (H.nxt+1)) Z'/\PO Z'.toHp (H.nxt+1) H.nxt (fs2 iw tw)/\Z'.nxt=H.nxt+2/\∀ i,i < H.nxt->Z'.obj i=H.obj i:=by
 have u:PO ((H.add (.dict [])).add (.inst 231 H.nxt)) (H.nxt+1) H.nxt []:=by
  refine ⟨c7 rfl,?_,Nat.succ_ne_self _⟩
  show (if H.nxt=H.nxt+1 then _ else if H.nxt=H.nxt then _ else _)=_
  rw [d0 (Nat.succ_ne_self _).symm,c7 rfl]
 obtain ⟨Z',e1,e2⟩:=qZj (pp:=pp) (n:=n) (iw:=iw) (tw:=tw) u
 refine ⟨Z',?_,?_⟩
 ·show (if (231:Nat)=48 then xJ [.int iw,.int tw] H else qGd (G09 pp) (zH rows09 (T pp n) 137) (zH rows09 (T pp (n+1))) 231 [.int iw,.int tw] H)=_
  refine (zX1).trans ?_
  show qGd (G09 pp) (zH rows09 (T pp n) 137) (zH rows09 (T pp (n+1))) 231 [.int iw,.int tw] H=_
  unfold qGd
  refine (c7 rfl).trans ?_
  unfold qKk
  rw [show (G09 pp).C=231 from rfl,e1]
 ·rw [e2]
  refine ⟨u.put,rfl,λ i hi=>?_⟩
  rw [qH (r9 hi)]
  show (if i=H.nxt+1 then _ else if i=H.nxt then _ else H.obj i)=_
  rw [d0 (r9 (k9 hi)),d0 (r9 hi)]
def Same (H H':Hp):Prop:=H.nxt<=H'.nxt/\∀ i,i < H.nxt->H'.obj i=H.obj i
theorem Same.trans {H H' H'':Hp} (h:Same H H') (h':Same H' H''):Same H H'':=⟨d5 h.1 h'.1,λ i hi=>(h'.2 i (m0 hi h.1)).trans (h.2 i hi)⟩
theorem Same.refl {H:Hp}:Same H H:=⟨d7 _,λ q q=>rfl⟩
theorem qKx:∀ l:List Int,wC (l.map .int)=some l
 | []=>rfl
 | a::l=>by
  show (wC (l.map .int)).map (a::·)=_
  rw [qKx l]; rfl
theorem zJi {l:List Int} {Z:St}:(T pp n).app (.top (.builtin "sum")) [.list (l.map .int)] H=okH (.int l.sum) H:=by
 rw [bT.bl]
 unfold bapp
 rw [zX1,zX1,c7 rfl]
 show (wC (l.map .int)).elim Rs.bad _=_
 rw [qKx]; rfl
theorem qHe {f a:X} {vf v r:V} (u:ev (T pp n).toCx f Z=.ok vf Z) (ha:ev (T pp n).toCx a Z=.ok v Z) (h:(T pp n).app vf [v] Z.toHp=okH r Z.toHp):ev (T pp n).toCx (.call f (.cons a .nil)) Z=.ok r Z :=
 xZ (Z':={ toHp:=Z.toHp,loc:=[] }) u (qJ ha rfl) h
theorem qAt {a:X} {v:V} {i:Int} (ha:ev (T pp n).toCx a Z=.ok v Z) (h:qIe v Z.toHp=okH (.int i) Z.toHp):ev (T pp n).toCx (.call (.glob "len") (.cons a .nil)) Z=.ok (.int i) Z :=
 qHe (qZ (qZr bT)) ha (by rw [bT.bl,qLq,h])
theorem qIw {α:Type} {xs:List α} {k:Nat}:cut xs none (some (k:Int))=xs.take k:=by
 show (xs.drop 0).take (clipAt xs.length (k:Int) - 0)=_
 rw [uY,lM,pQ]
 by_cases h:k<=xs.length
 ·rw [dT h]
 ·rw [eM (by exact eW h),t7 (d7 _),t7 (by exact eW h)]
theorem zOf {α:Type} {xs:List α} {k:Nat}:cut xs (some (k:Int)) none=xs.drop k:=by
 show (xs.drop (clipAt xs.length (k:Int))).take (xs.length - clipAt xs.length (k:Int))=_
 rw [uY]
 by_cases h:k<=xs.length
 ·rw [dT h,t7 (by rw [u0]; exact d7 _)]
 ·rw [eM (by exact eW h),lR,oT,eL (by exact eW h)]
theorem qBi {x:Str} {c:Nat} {v:V} {cx:Cx} (h:Z.cel.lookup x=some c) (u:Z.obj c=some (.cell (some v))):ev cx (.cv x) Z=.ok v Z:=by
 rw [zNz,h]
 show (match Z.obj c with | some (.cell (some v))=>Rs.ok v Z | _=>.bad)=_
 rw [u]
theorem qLm {m:Nat}:∀ l:List Int,(l.map V.int).mapM (dat H (m+1))=some (l.map gS)
 | []=>rfl
 | a::l=>by
  rw [v4,oJ,qLm l]; rfl
theorem qXl {n:Nat} (h:0 < n):seqIndex? (-1) n=some (n - 1):=by
 have e:(if (-1:Int) < 0 then (-1:Int)+n else -1)=((n - 1:Nat):Int):=by rw [c7 (by decide)]; exact m_e0 h
 unfold seqIndex?
 rw [e]
 exact (c7 (by rw [d8]; exact ⟨h8 (by exact bQ _),h8 (by lia)⟩)).trans (g8 some (dP _))
theorem qVw {cx:Cx} {a b:X} {x y:Int} (ha:ev cx a Z=.ok (.int x) Z) (u:ev cx b Z=.ok (.int y) Z) (h:y≠0):ev cx (.bin .Mod a b) Z=.ok (.int (x.fmod y)) Z:=yU ha u (d0 h)
theorem qDz {b:Nat} (u:0 < b) (a:Int):∃ k:Nat,k < b/\a.fmod b=(k:Int):=by
 have B:=Int.fmod_nonneg_of_pos a (b:=(b:Int)) (by simp [u])
 have h2:=Int.fmod_lt_of_pos a (b:=(b:Int)) (by simp [u])
 exact ⟨(a.fmod b).toNat,by simp [u,h2],by exact Int.eq_natCast_toNat.mpr B⟩
theorem zKl {cx:Cx} {op:CmpOp} {a b:X} {x y v:V} (ha:ev cx a Z=.ok x a0) (u:ev cx b a0=.ok y a7) (h:vG a7.toHp op x y=.ok v):ev cx (.cmp op a b) Z=.ok v a7:=by
 rw [qQs,Rs.bind_ok ha,Rs.bind_ok u,h]; rfl
theorem uO {l:List Str} {i:Nat} {r:Str} (hi:i<=1000) (h:l[i]? = some r):wF H (.list (l.map .str)) (.int (i:Nat))=.ok (.str r) :=
 uP (xs:=l.map V.str) (j:=i) rfl rfl (jO (by simp) (by exact pX rfl rfl hi)) (qCa (by rw [k0]; exact (List.getElem?_eq_some_iff.mp h).1)) (by rw [hA,h]; rfl)
theorem zIu {α:Type} {xs:List α} {a:α}:cut (xs++[a]) none (some (-1))=xs:=by
 show ((xs++[a]).drop 0).take (clipAt (xs++[a]).length (-1) - 0)=_
 have:clipAt (xs++[a]).length (-1)=xs.length:=by
  unfold clipAt
  rw [g7,k8,c7 (by decide)]
  exact m_e4
 rw [this,lM,pQ,oX]
theorem zHl:qW "split" = some "str.split" := by unfold qW; rw [zX1,zX1,c7 rfl]
theorem zNk:qW "join" = some "str.join" := by unfold qW; rw [zX1,zX1,zX1,c7 rfl]
theorem qPa {c:Bool} {a b:V}:bapp c "str.split" [a,b] H=yJ a b H:=by unfold bapp; rw [zX1,zX1,zX1,zX1,zX1,zX1,zX1,c7 rfl]; rfl
theorem qVe {c:Bool} {a b:V}:bapp c "str.join" [a,b] H=qDs a b H:=by unfold bapp; rw [zX1,zX1,zX1,zX1,zX1,zX1,zX1,zX1,c7 rfl]; rfl
theorem qJy:∀ l:List Str,hZ (l.map .str)=some l
 | []=>rfl
 | a::l=>by
  show (hZ (l.map .str)).map (a::·)=_
  rw [qJy l]; rfl
theorem zHs {l:List Str} {y:Str} (B:lX "" l=y) (h2:JoinOk "" l=true) (h3:kO y=true):qDs (.str "") (.list (l.map .str))=λ H=>okH (.str y) H:=by
 subst B
 funext H
 show (hZ (l.map .str)).elim Rs.bad (λ u=>if (JoinOk "" u && kO (lX "" u))=true then okH (.str (lX "" u)) H else .bad)=_
 rw [qJy]
 exact c7 (by rw [h2,h3]; rfl)
theorem qKb {x:Str} {i:Int}:wX H (.str x) (.int i) .none=.ok (.str ⟨(cut x.cps.toList (some i) none).toArray⟩):=rfl
theorem zCp {cx:Cx} {a b:X} {x:V} {xs:List V} {a7:St} (ha:ev cx a Z=.ok x a0) (u:ev cx b a0=.ok (.list xs) a7):ev cx (.cons a b) Z=.ok (.list (x::xs)) a7:=by
 rw [qLe,Rs.bind_ok ha,Rs.bind_ok u]; rfl
end
noncomputable def tx (l:Ln):Str:=⟨l.toArray⟩
theorem zOv (x:Str):tx x.cps.toList=x:=Str.eq_of rfl
theorem qMb {a b:Str}:a++b=tx (a.cps.toList++b.cps.toList):=Str.eq_of (by
 show (a.cps++b.cps).toList=_
 simp [tx])
theorem qOc (u:List Str):(lX "" u).cps.toList=(u.map (·.cps.toList)).flatten:=by
 have e0:("" : Str)=⟨#[]⟩:=by decide +kernel
 rw [e0]
 have B:∀ (l:List Str) (acc:Array Nat),(l.foldl (λ acc p=>acc++(⟨#[]⟩:Str).cps++p.cps) acc).toList=acc.toList++(l.map (·.cps.toList)).flatten:=by
  intro l
  induction l with
  | nil=>intro acc; simp
  | cons x r D=>intro acc; rw [nR,D]; simp
 unfold lX Builtin.Str.glued
 cases u with
 | nil=>rfl
 | cons x r=>dsimp only [List.drop,List.headD]; rw [B]; simp
theorem qUc (l:List Str) (n:Nat):l.foldl (λ a (x:Str)=>a+x.length+("" : Str).length) n=n+(l.map (·.cps.toList)).flatten.length:=by
 have B:("" : Str).length=0:=by decide +kernel
 induction l generalizing n with
 | nil=>rfl
 | cons x r u =>
  rw [nR,u,B,v4,List.flatten_cons,g7]
  have:x.cps.toList.length=x.length:=h9
  lia
theorem jV {l:Ln} (h:∀ c∈l,c < 128) (u:l.length<=1000):small (tx l):=⟨h,by show l.toArray.size<=1000; rw [n7]; exact u⟩
theorem qIo {x:Str} (h:small x):kO x=true:=by
 unfold kO
 rw [qCx h.1,iS]
 exact h8 (d5 h.2 (by decide))
noncomputable def toks:List Str:=["def f:\n", "else\n", "try: ", "\n", ":\n", "'", "\"", "'''", "\"\"\"", "'''\n", "\"\"\"\n", "\\", "\\\n", "#", " ", "x", "\treturn\n", "\x69mport\n", "''", "\"\n"]
noncomputable def pres:List Str:=["x\n", "", "", ""]
noncomputable def tails:List Str:=["class c:\n", "\n", "\\\n", "'''\n"]
def okS (l:Ln):Bool:=decide (l.length<=9) && l.all (λ c=>decide (c < 128) && tr12 c != 40 && tr12 c != 41) && Tx.nb l
noncomputable def qQv (l:Ln):Bool:=match l.getLast? with | some c=>Tx.safeE c | none=>true
theorem zCv:∀ t∈toks,(okS t.cps.toList && qQv t.cps.toList)=true:=by decide +kernel
theorem zEs:∀ t∈pres,(okS t.cps.toList && qQv t.cps.toList)=true:=by decide +kernel
theorem qWg:∀ t∈tails,(okS t.cps.toList && (t.cps.toList.getLast? == some 10))=true:=by decide +kernel
structure TxOk (l:Ln):Prop where
 signs:∀ c∈l,c < 128/\qEq c
 nb:Tx.nb l=true
theorem TxOk.nil:TxOk []:=⟨λ q h=>(nomatch h),rfl⟩
theorem qNs {l:Ln} (h:okS l=true):l.length<=9/\TxOk l:=by
 unfold okS at h
 rw [d8,d8,fQ,j4] at h
 refine ⟨h.1.1,λ c hc=>?_,h.2⟩
 have:=h.1.2 c hc
 simp only [d8,iP,j4] at this
 exact ⟨this.1.1,this.1.2,this.2⟩
theorem TxOk.app {a b:Ln} (ha:TxOk a) (u:qQv a=true) (B:TxOk b):TxOk (a++b) :=
 ⟨λ c hc=>(List.mem_append.mp hc).elim (ha.signs c) (B.signs c),Tx.nb_app ha.nb B.nb λ c hc=>by unfold qQv at u; rw [hc] at u; exact u⟩
theorem hV:∀ {u:List Str},(∀ t∈u,t∈toks)->∀ {b:Ln},TxOk b->TxOk ((u.map (·.cps.toList)).flatten++b)/\(u.map (·.cps.toList)).flatten.length<=9 * u.length
 | [],_,b,hb=>⟨hb,d7 _⟩
 | t::u,h,b,hb=>by
  obtain ⟨B,h2⟩:=hV (λ t D=>h t (.tail _ D)) hb
  have:=zCv t (h t (.head _))
  rw [d8] at this
  obtain ⟨h3,h4⟩:=qNs this.1
  rw [v4,List.flatten_cons,u6,g7,m7]
  exact ⟨h4.app this.2 B,by exact n_f4 h2 h3⟩
structure LawT (l:Ln):Prop extends TxOk l where
 len:l.length<=180
 last:l.getLast? = some 10
theorem zRe {a b:Str} {u:List Str} (ha:a∈pres) (D:b∈tails) (S:∀ t∈u,t∈toks) (hn:u.length<=18):LawT (a.cps.toList++((u.map (·.cps.toList)).flatten++b.cps.toList)):=by
 have B:=zEs a ha
 rw [d8] at B
 obtain ⟨h2,h3⟩:=qNs B.1
 have h4:=qWg b D
 rw [d8,j8] at h4
 obtain ⟨h5,J⟩:=qNs h4.1
 obtain ⟨L,O⟩:=hV S J
 refine ⟨h3.app B.2 L,?_,?_⟩
 ·rw [g7,g7]; exact m_g7 hn h2 h5 O
 ·rw [← u6,lC,h4.2]; rfl
theorem qJz:∀ l:Ln,∃ ls r,(spl l).1::(spl l).2=ls++[r]/\l=Tx.flat ls++r/\Tx.Lines ls/\10 ∉ r
 | []=>⟨[],[],rfl,rfl,λ z h=>(nomatch h),by simp⟩
 | c::l=>by
  obtain ⟨ls,r,u,h2,h3,h4⟩:=qJz l
  by_cases hc:c=10
  ·have e:spl (c::l)=([],(spl l).1::(spl l).2):=c7 hc
   refine ⟨[]::ls,r,by rw [e,u]; rfl,?_,λ x hx=>?_,h4⟩
   ·rw [Tx.flat_cons,hc]
    show 10::l=10::(Tx.flat ls++r)
    rw [← h2]
   ·rcases List.mem_cons.mp hx with rfl | hx
    ·simp
    ·exact h3 x hx
  ·have e:spl (c::l)=(c::(spl l).1,(spl l).2):=d0 hc
   rw [e]
   cases ls with
   | nil =>
    obtain ⟨e1,e2⟩:=j5 u
    refine ⟨[],c::r,by rw [e1,e2]; rfl,?_,h3,?_⟩
    ·rw [h2]; rfl
    ·intro q
     rcases List.mem_cons.mp q with q | q
     ·exact hc q.symm
     ·exact h4 q
   | cons x ls =>
    obtain ⟨e1,e2⟩:=j5 u
    refine ⟨(c::x)::ls,r,by rw [e1,e2]; rfl,?_,λ y hy=>?_,h4⟩
    ·rw [h2,Tx.flat_cons,Tx.flat_cons]; rfl
    ·rcases List.mem_cons.mp hy with rfl | hy
     ·intro q
      rcases List.mem_cons.mp q with q | q
      ·exact hc q.symm
      ·exact h3 x (.head _) q
     ·exact h3 y (.tail _ hy)
structure RowsT (l:Ln) (ls:List (Ln)):Prop where
 flat:l=Tx.flat ls
 lines:Tx.Lines ls
 ne:ls≠[]
 spl:(spl l).1::(spl l).2=ls++[[]]
theorem zPb {l:Ln} (h:l.getLast? = some 10):∃ ls,RowsT l ls:=by
 obtain ⟨ls,r,u,h2,h3,h4⟩:=qJz l
 have hr:r=[]:=by
  rcases iK r with q | ⟨r',c,q⟩
  ·exact q
  ·exfalso
   rw [h2,q,fM,← u6,u8] at h
   rw [q,fM,j7 h] at h4
   exact h4 (w7 _ (.head _))
 subst hr
 rw [cN] at h2
 refine ⟨ls,h2,h3,?_,u⟩
 rintro rfl
 rw [h2] at h; cases h
theorem RowsT.le {l:Ln} {ls:List (Ln)} (h:RowsT l ls):ls.length<=l.length:=by
 rw [h.flat,← vB h.lines]; exact List.count_le_length
theorem RowsT.mem {l r:Ln} {ls:List (Ln)} (h:RowsT l ls) (hr:r∈ls):r.length<=l.length/\∀ c∈r,c∈l:=by
 obtain ⟨k,hk,rfl⟩:=List.getElem_of_mem hr
 have:=Tx.flat_split hk
 rw [h.flat,this,g7,g7]
 exact ⟨by simp +arith,λ c hc=>w7 _ (oW _ hc)⟩
section
variable {H:Hp} {l:Ln} {ls:List (Ln)}
open StrLaws PySem.Builtin PySem.Builtin.Str in
theorem qMn (h:RowsT l ls) (U:∀ c∈l,c < 128) (h2:l.length<=1000):yJ (.str (tx l)) (.str "\n") H=okH (.list (((ls++[[]]).map tx).map .str)) H:=by
 have hs:=qWo (x:=tx l)
 rw [show (tx l).cps.toList=l from rfl,h.spl] at hs
 have e1:lN (tx l) ⟨#[10]⟩=(ls++[[]]).map tx:=by
  have e:∀ (a:List Str) (b:List (Ln)),a.map (·.cps.toList)=b->a=b.map tx:=by
   intro a b L
   subst L
   rw [hK]
   have:tx ∘ (λ x:Str=>x.cps.toList)=_root_.id:=funext λ x=>zOv x
   rw [this,List.map_id]
  exact e _ _ hs
 have B:=h.le
 have S:(partsBetween (tx l) (occurrences (tx l) ⟨#[10]⟩ 0 (tx l).length ((tx l).length+1)) (⟨#[10]⟩:Str).length).length=ls.length+1:=by
  have J:occurrences (tx l) ⟨#[10]⟩ 0 (tx l).length ((tx l).length+1)=oc [10] 0 0 (tx l).cps.toList:=qHw (x:=tx l) (y:=[10]) (by decide)
  have hp:=wL (tx l).cps.toList 0 0 rfl (d7 _) (m9 _) (x:=tx l)
  rw [J,nT]
  have D:=g8 List.length hp
  rw [k0,m7] at D
  have h2:=g8 List.length h.spl
  rw [m7,g7] at h2
  exact D.trans h2
 unfold yJ
 show (if kT (tx l) "\n" = true then okH (.list ((lN (tx l) "\n").map .str)) H else .bad)=_
 rw [nlS]
 have u:g0=16777216:=by decide
 have O:kT (tx l) ⟨#[10]⟩=true:=by
  unfold kT
  rw [S,e1,k0,g7]
  rw [d8,d8,d8]
  refine ⟨⟨⟨rfl,h8 (by exact m_g8 h2 B u)⟩,h8 (by show ls.length+1<=_; exact m_g8 h2 B u)⟩,?_⟩
  rw [fQ]
  intro y hy
  obtain ⟨r,hr,rfl⟩:=List.mem_map.mp hy
  rcases List.mem_append.mp hr with q | q
  ·obtain ⟨T,V⟩:=h.mem q
   exact qIo (jV (λ c hc=>U c (V c hc)) (by exact d5 T h2))
  ·rw [List.mem_singleton.mp q]
   exact qIo (jV (λ c hc=>(nomatch hc)) (m9 _))
 rw [c7 O,e1]
end
section
variable {cx:Sx} {Z a0:St} {Q:Fl->St->Prop} {pp:bA} {n:Nat} {H:Hp} {ns:List Int} {l:Ln}
set_option tactic.hygienic true in
theorem zNx {x:Str} {e:X} {u v r:V} (hu:Z.loc.lookup x=some u) (B:ev cx.toCx e Z=.ok v a0) (hr:qFl u v=.ok r) (h:Q .next (a0.set x r)):Gd (ex (.aug x e) cx Z) Q:=by
 refine ⟨.next,_,?_,h⟩
 rw [zIe,Rs.bind_ok (qB (cx:=cx.toCx) hu),Rs.bind_ok B,hr]; rfl
theorem qIm {x:Str} {e:X} {u v r:V} {c:S} (hu:Z.loc.lookup x=some u) (B:ev cx.toCx e Z=.ok v a0) (hr:qFl u v=.ok r) (h:Gd (ex c cx (a0.set x r)) Q):Gd (ex (.seq (.aug x e) c) cx Z) Q:=qD (zNx hu B hr h)
theorem yZ {x:Str} {c:Nat} {o:Option V} {v:V} (h:Z.cel.lookup x=some c) (u:Z.obj c=some (.cell o)):Z.setC x v=some { Z with toHp:=hput Z.toHp c (.cell (some v)) }:=by
 unfold St.setC
 rw [h]
 show (if qZi (Z.obj c)=true then _ else _)=_
 rw [u]; rfl
theorem qKe {f:Addr} {sc:Scope} {ps:List Str} {b:S} {args:List V} {B:Fl} {Z':St} {v:V} (D:f≠231/\f≠48) (u:rows09.lookup f=some (sc,ps,b)) (J:args.length=ps.length)
  (L:ex b (T pp n) (entryC sc (ps.zip args) H)=.ok B Z') (hr:qHo B Z'=.ok v Z'):(T pp (n+1)).app (.top (.ref f)) args H=.ok v Z':=by
 rw [uZ D]
 unfold zH
 rw [u]
 show jZ sc ps b (T pp n) args H=_
 unfold jZ
 rw [c7 J,Rs.bind_ok L,hr]
theorem zQa {a:Int}:qJc H .FloorDiv (.int a) (.int 4)=.ok (.int (a.fdiv 4)):=by
 show (if (0:Int) < 4/\(4:Int) < 1000 then Ov.ok (V.int (a.fdiv 4)) else .bad)=_
 exact c7 (by decide)
noncomputable def qJt (i:Int):Str:=toks.getD (i.fmod 20).toNat ""
theorem qPn (i:Int):∃ k:Nat,i.fmod 20=(k:Int)/\toks[k]? = some (qJt i)/\k < 20:=by
 obtain ⟨k,u,h2⟩:=qDz (b:=20) (by decide) i
 refine ⟨k,h2,?_,u⟩
 have B:i.fmod 20=(k:Int):=h2
 unfold qJt
 rw [B,dP,m3,n3 (show k < toks.length from u)]; rfl
def zOx:V->V
 | .int i=>.str (qJt i)
 | v=>v
theorem zIv (u:Z.loc.lookup ("script" : Str)=some (.list (ns.map .int))) {c:Nat} (h2:Z.cel.lookup ("tokens" : Str)=some c) (h3:Z.obj c=some (.cell (some (.list (toks.map .str))))) :
  ev (T pp n).toCx zBm Z=.ok (.list (((ns.take 18).map qJt).map .str)) Z:=by
 have e1:ev (T pp n).toCx (.slc (.var "script") .none (.int 18)) Z=.ok (.list ((ns.take 18).map .int)) Z:=by
  refine jR (qB u) (show ev (T pp n).toCx .none Z=.ok .none Z from rfl) (show ev (T pp n).toCx (.int 18) Z=.ok (.int ((18:Nat):Int)) Z from rfl) ?_
  show Ov.ok (.list (cut (ns.map V.int) none (some ((18:Nat):Int))))=_
  rw [qIw,pC]
 have e2:=qHd (qBf (pp:=pp) n) (elt:=.idx (.cv "tokens") (.bin .Mod (.var "x") (.int 20))) (x:="x") zOx e1 rfl (λ v hv=>by
  obtain ⟨i,hi,rfl⟩:=List.mem_map.mp hv
  obtain ⟨k,B,D,J⟩:=qPn i
  refine xF (qBi h2 h3) (qVw (qB rfl) (y:=20) rfl (by decide)) ?_
  rw [B]
  exact uO (by lia) D) (by rw [k0,dS]; exact d5 (gW _ _) (by decide))
 have e3:((ns.take 18).map V.int).map zOx=((ns.take 18).map qJt).map .str:=by
  rw [hK,hK]; rfl
 rw [e3] at e2
 exact e2
theorem qTp {u:List Str} (h:∀ t∈u,t∈toks) (hn:u.length<=18):qDs (.str "") (.list (u.map .str))=λ H=>okH (.str (tx (u.map (·.cps.toList)).flatten)) H:=by
 obtain ⟨B,h2⟩:=hV h TxOk.nil
 rw [cN] at B
 refine zHs (Str.eq_of (qOc u)) ?_ (qIo (jV (λ c hc=>(B.signs c hc).1) (by lia)))
 unfold JoinOk
 rw [List.foldl_toArray,qUc]
 unfold eP
 rw [dO,eV,sizeLine_eq]
 exact m_g9 hn h2
theorem four {l:List Str} (h:l.length=4) {k:Nat} (hk:k < 4):∃ r,l[k]? = some r/\r∈l:=⟨_,n3 (by simp [h,hk]),mZ _⟩
theorem qWd (hn:ns.length<=63):∃ l Z',LawT l/\(T pp (n+1)).app (.top (.ref 240)) [.list (ns.map .int)] H=.ok (.str (tx l)) Z'/\Same H Z'.toHp:=by
 have X:∃ l,LawT l/\Gd (ex qCe (T pp n) (entryC ltext_sc ((["script"]:List Str).zip [.list (ns.map .int)]) H)) λ f Z'=>f=.ret (.str (tx l))/\Same H Z'.toHp:=by
  have h1:(entryC ltext_sc ((["script"]:List Str).zip [.list (ns.map .int)]) H).loc.lookup ("script" : Str)=some (.list (ns.map .int)):=by rfl
  have h2:(entryC ltext_sc ((["script"]:List Str).zip [.list (ns.map .int)]) H).toHp=H.add (.cell none):=by rfl
  have h3:(entryC ltext_sc ((["script"]:List Str).zip [.list (ns.map .int)]) H).cel=[(("tokens" : Str),H.nxt)]:=by rfl
  generalize entryC ltext_sc ((["script"]:List Str).zip [.list (ns.map .int)]) H=Z at h1 h2 h3 ⊢
  have hc:Z.cel.lookup ("tokens" : Str)=some H.nxt:=by rw [h3]; rfl
  have ho:Z.obj H.nxt=some (.cell none):=by rw [h2]; exact c7 rfl
  refine bC λ L=>?_
  obtain ⟨k1,ac,ae⟩:=qDz (b:=4) (by decide) ((ns.length:Int).fdiv 4)
  obtain ⟨k2,a8,aa⟩:=qDz (b:=4) (by decide) (ns.length:Int)
  obtain ⟨a,a1,a2⟩:=four (l:=pres) rfl ac
  obtain ⟨b,b1,b2⟩:=four (l:=tails) rfl a8
  refine L ?_
  have J:∀ t∈(ns.take 18).map qJt,t∈toks:=λ t J=>by
   refine bC λ L=>?_
   obtain ⟨i,_,rfl⟩:=List.mem_map.mp J
   obtain ⟨k,_,k2,_⟩:=qPn i
   refine L ?_
   exact lB k2
  have O:((ns.take 18).map qJt).length<=18:=by rw [k0,dS]; exact gW _ _
  have Y:=zRe a2 b2 J O
  refine ⟨_,Y,?_⟩
  generalize a7:(ns.take 18).map qJt=ts at J O Y
  have B:=Y.len
  rw [g7,g7] at B
  have ab:ev (T pp n).toCx (.list (.cons (.str "def f:\n") (.cons (.str "else\n") (.cons (.str "try: ") (.cons (.str "\n") (.cons (.str ":\n") (.cons (.str "'") (.cons (.str "\"") (.cons (.str "'''") (.cons (.str "\"\"\"") (.cons (.str "'''\n") (.cons (.str "\"\"\"\n") (.cons (.str "\\") (.cons (.str "\\\n") (.cons (.str "#") (.cons (.str " ") (.cons (.str "x") (.cons (.str "\treturn\n") (.cons (.str "\x69mport\n") (.cons (.str "''") (.cons (.str "\"\n") .nil))))))))))))))))))))) Z=.ok (.list (toks.map .str)) Z:=xO rfl (by decide)
  unfold qCe
  refine qD (qCh ab (yZ hc ho) ?_)
  have g1:({ Z with toHp:=hput Z.toHp H.nxt (.cell (some (.list (toks.map .str)))) }:St).loc.lookup ("script" : Str)=some (.list (ns.map .int)):=h1
  have g2:({ Z with toHp:=hput Z.toHp H.nxt (.cell (some (.list (toks.map .str)))) }:St).cel.lookup ("tokens" : Str)=some H.nxt:=hc
  have D:({ Z with toHp:=hput Z.toHp H.nxt (.cell (some (.list (toks.map .str)))) }:St).obj H.nxt=some (.cell (some (.list (toks.map .str)))):=c7 rfl
  have u:Same H ({ Z with toHp:=hput Z.toHp H.nxt (.cell (some (.list (toks.map .str)))) }:St).toHp:=by
   refine ⟨?_,λ i hi=>?_⟩
   ·show H.nxt<=Z.toHp.nxt
    rw [h2]; exact dY _
   ·refine (qH (r9 hi)).trans ?_
    rw [h2]; exact d0 (r9 hi)
  generalize ({ Z with toHp:=hput Z.toHp H.nxt (.cell (some (.list (toks.map .str)))) }:St)=Z at g1 g2 D u ⊢
  have U:∀ {Z:St},Z.loc.lookup ("script" : Str)=some (.list (ns.map .int))->ev (T pp n).toCx zNn Z=.ok (.int (ns.length:Nat)) Z:=λ h=>qAt (qB h) (by show okH (.int ((ns.map V.int).length:Nat)) _=_; rw [k0])
  refine qE (v:=.str a) (xF (xO (xs:=pres.map .str) rfl (by decide)) (qVw (yU (U g1) rfl zQa) (y:=4) rfl (by decide)) ?_) ?_
  ·rw [show ((ns.length:Int).fdiv 4).fmod 4=(k1:Int) from ae]
   exact uO (by lia) a1
  have f1:=@qC Z "text" (.str a)
  replace g1:=@qA Z "text" "script" (.str a) _ (by decide) g1
  replace g2:(Z.set "text" (.str a)).cel.lookup ("tokens" : Str)=some H.nxt:=g2
  replace D:(Z.set "text" (.str a)).obj H.nxt=_:=D
  replace u:Same H (Z.set "text" (.str a)).toHp:=u
  generalize Z.set "text" (.str a)=Z at f1 g1 g2 D u ⊢
  have S:=zIv (pp:=pp) (n:=n) g1 g2 D
  rw [a7] at S
  have hj:ev (T pp n).toCx (.meth (.str "") "join" (.cons zBm .nil)) Z=.ok (.str (tx (ts.map (·.cps.toList)).flatten)) Z :=
   xM (Z':={ toHp:=Z.toHp,loc:=[] }) (vo:=.str "") rfl (jC bT zNk) (qJ S rfl) (by
    rw [bT.bl]
    show bapp _ "str.join" [.str "", .list (ts.map .str)] _=_
    rw [qVe,qTp J O]; rfl)
  have a4:(tx (ts.map (·.cps.toList)).flatten).length=(ts.map (·.cps.toList)).flatten.length:=n7 ..
  have a9:a.length=a.cps.toList.length:=Array.length_toList.symm
  have a5:b.length=b.cps.toList.length:=Array.length_toList.symm
  refine qIm f1 hj (show qFl (.str a) (.str _)=.ok (.str (a++_)) from c7 (by rw [a4,a9]; exact d5 (by exact m_h0 B:_<=1000) (by decide))) ?_
  have f2:=@qC Z "text" (.str (a++tx (ts.map (·.cps.toList)).flatten))
  replace g1:=@qA Z "text" "script" (.str (a++tx (ts.map (·.cps.toList)).flatten)) _ (by decide) g1
  replace u:Same H (Z.set "text" (.str (a++tx (ts.map (·.cps.toList)).flatten))).toHp:=u
  generalize Z.set "text" (.str (a++tx (ts.map (·.cps.toList)).flatten))=Z at f2 g1 u ⊢
  have hR:(a++tx (ts.map (·.cps.toList)).flatten)++b=tx (a.cps.toList++((ts.map (·.cps.toList)).flatten++b.cps.toList)):=by
   rw [qMb,qMb]
   show tx ((a.cps.toList++_)++b.cps.toList)=_
   rw [u6]; rfl
  have a0:(a++tx (ts.map (·.cps.toList)).flatten).length=a.cps.toList.length+(ts.map (·.cps.toList)).flatten.length:=by
   rw [qMb]
   show (pM _).size=_
   rw [n7,g7]; rfl
  refine qD (kL (yU (y:=.str b) (qB f2) (xF (xO (xs:=tails.map .str) rfl (by decide)) (qVw (U g1) (y:=4) rfl (by decide)) ?_) ?_) ⟨rfl,u⟩)
  ·rw [show (ns.length:Int).fmod 4=(k2:Int) from aa]
   exact uO (by lia) b1
  ·rw [← hR]
   exact c7 (by rw [a0,a5]; exact d5 (by exact m_h1 B:_<=1000) (by decide))
 refine bC λ L=>?_
 obtain ⟨l,hl,f,Z',e,rfl,w⟩:=X
 refine L ?_
 exact ⟨l,Z',hl,qKe (by decide) (by rfl) rfl e rfl,w⟩
theorem qYu:qW "lstrip" = some "str.lstrip" := by unfold qW; rw [zX1,zX1,zX1,zX1,c7 rfl]
theorem qTj:qW "isalnum" = some "str.isalnum" := by unfold qW; rw [zX1,zX1,zX1,zX1,zX1,c7 rfl]
theorem zHn:qW "count" = some "str.count" := by unfold qW; rw [zX1,zX1,zX1,zX1,zX1,zX1,c7 rfl]
theorem qLp {c:Bool} {a b:V}:bapp c "str.lstrip" [a,b] H=uG a b H:=by unfold bapp; rw [zX1,zX1,zX1,zX1,zX1,zX1,zX1,zX1,zX1,c7 rfl]; rfl
theorem qJd {c:Bool} {a:V}:bapp c "str.isalnum" [a] H=qEp a H:=by unfold bapp; rw [zX1,zX1,zX1,zX1,zX1,zX1,zX1,zX1,zX1,zX1,c7 rfl]; rfl
theorem qPb {c:Bool} {a b:V}:bapp c "str.count" [a,b] H=qEe a b H:=by unfold bapp; rw [zX1,zX1,zX1,zX1,zX1,zX1,zX1,zX1,zX1,zX1,zX1,c7 rfl]; rfl
theorem qBh {c:Bool} {a b:V}:bapp c "list.append" [a,b] H=xD a b H:=by unfold bapp; rw [zX1,c7 rfl]; rfl
theorem qKr:∀ l:Ln,Tx.leadB l=(l.takeWhile qL).length
 | []=>rfl
 | c::r=>by
  rw [Tx.leadB_c]
  rw [gL]
  split
  ·rw [qKr r]; rfl
  ·rfl
theorem zBy:(" \t" : Str).cps.contains=qL:=by
 have e:(" \t" : Str).cps = #[32,9]:=by decide
 rw [e]
 funext c
 unfold qL
 simp [Bool.beq_eq_decide_eq]
theorem kW:(tx l).length=l.length:=n7 ..
theorem zKm {a b:Ln} (h:tx a=tx b):a=b:=g8 (λ x:Str=>x.cps.toList) h
theorem qTl:dJ (tx l) " \t" = tx (l.drop (Tx.leadB l)):=by
 refine Str.eq_of ?_
 unfold dJ Txt.stripBy
 rw [zBy]
 have u:stripLo qL true (tx l)=Tx.leadB l:=(qKr l).symm
 have B:∀ k,stripHi qL false (tx l) k=l.length:=λ k=>kW
 by_cases h:stripSame qL true false (tx l)=true
 ·rw [c7 h]
  unfold stripSame at h
  rw [u,d8,j8] at h
  rw [h.1]; rfl
 ·rw [d0 h]
  unfold PySem.stripped
  rw [u,B,Mine.Lake.Rp.sub_list]
  show (l.drop _).take _=_
  rw [t7 (by rw [u0]; exact d7 _)]; rfl
theorem zOn {c:Nat}:oQ ⟨#[c]⟩=i6 c:=by
 unfold oQ
 show (decide (1 > 0) && (#[c]:Array Nat).all i6)=_
 simp
theorem zIt {p:Nat}:(tx l).cps.toList.drop p=l.drop p:=rfl
theorem qVq (h1:∀ c∈l,c < 128) (h2:l.length<=200):∃ Z',(T pp (n+1)).app (.top (.ref 254)) [.str (tx l)] H=.ok (.str (tx (Tx.fword l))) Z'/\Z'.toHp=H:=by
 refine qEo (· = H) (by decide) (by rfl) rfl λ Z X g2=>?_
 have g1:Z.loc.lookup ("row" : Str)=some (.str (tx l)):=by rw [X]; rfl
 unfold qIa
 have O:∀ c∈l.drop (Tx.leadB l),c < 128:=λ c hc=>h1 c (eK hc)
 have B:(l.drop (Tx.leadB l)).length<=200:=by rw [u0]; exact d5 (lO _ _) h2
 have e1:ev (T pp n).toCx (.meth (.var "row") "lstrip" (.cons (.str " \t") .nil)) Z=.ok (.str (tx (l.drop (Tx.leadB l)))) Z :=
  xM (Z':={ toHp:=Z.toHp,loc:=[] }) (qB g1) (jC bT qYu) (qJ rfl rfl) (by
   rw [bT.bl]
   show bapp _ "str.lstrip" [.str (tx l),.str " \t"] _=_
   rw [qLp]
   show (if kO (dJ (tx l) " \t")=true then okH (.str (dJ (tx l) " \t")) Z.toHp else .bad)=_
   rw [qTl,c7 (qIo (jV O (by exact d5 B (by decide))))]; rfl)
 have hF:Tx.fword l=(l.drop (Tx.leadB l)).takeWhile i6:=rfl
 rw [hF]
 generalize l.drop (Tx.leadB l)=b at e1 O B ⊢
 refine qE e1 ?_
 refine qE (v:=.int 0) rfl ?_
 have f1:=@qA (Z.set "bare" (.str (tx b))) "end" "bare" (.int 0) _ (by decide) qC
 have u:=@qC (Z.set "bare" (.str (tx b))) "end" (.int 0)
 have f3:((Z.set "bare" (.str (tx b))).set "end" (.int 0)).toHp=H:=g2
 generalize (Z.set "bare" (.str (tx b))).set "end" (.int 0)=Z at f1 u f3 ⊢
 have Y:(b.takeWhile i6).length<=b.length:=(List.takeWhile_sublist _).length_le
 refine qY (uR (λ k Z=>∃ e,Z.loc.lookup ("bare" : Str)=some (.str (tx b))/\Z.loc.lookup ("end" : Str)=some (.int ((e:Nat):Int))/\Z.toHp=H/\e+((b.drop e).takeWhile i6).length=(b.takeWhile i6).length/\(b.takeWhile i6).length - e < k)
  ⟨0,f1,u,f3,iX _,by exact m_h2 B Y⟩ ?_)
 rintro k Z ⟨e,f1,u,f3,he,hk⟩
 obtain ⟨k,rfl⟩:∃ j,k=j+1:=⟨k - 1,by exact m_h3 hk⟩
 have L:ev (T pp n).toCx (.call (.glob "len") (.cons (.var "bare") .nil)) Z=.ok (.int (b.length:Nat)) Z:=qAt (qB f1) (by show okH (.int ((tx b).length:Nat)) _=_; rw [kW])
 have D:=qJn (qB (cx:=(T pp n).toCx) u) L
 have J:e=(b.takeWhile i6).length->Gd (ex .nil (T pp n) Z) (qVl (.seq (.ret (.slc (.var "bare") .none (.var "end"))) .nil) (T pp n) λ f Z'=>qHo f Z'=.ok (.str (tx (b.takeWhile i6))) Z'/\Z'.toHp=H):=by
  intro U
  refine gd_nil (qD (kL (jR (qB f1) (show ev (T pp n).toCx .none Z=.ok .none Z from rfl) (qB u) ?_) ⟨rfl,f3⟩))
  show Ov.ok (.str ⟨(cut b none (some ((e:Nat):Int))).toArray⟩)=_
  rw [qIw,U]
  have:b.take (b.takeWhile i6).length=b.takeWhile i6:=by
   have:=iF (p:=i6) (l:=b)
   conv=>lhs; arg 2; rw [← this]
   exact oX
  rw [this]; rfl
 cases hd:b.drop e with
 | nil =>
  rw [hd] at he
  have a2:b.length<=e:=List.drop_eq_nil_iff.mp hd
  refine ⟨k,rfl,_,Z,_,yC (q:=false) D (λ q=>?_),rfl,λ q=>?_,λ z=>J he⟩
  ·have:=m5 q; lia
  ·rw [iD] at q; exact zF1 q
 | cons c r =>
  rw [hd,gL] at he
  have hx:=(zIt (l:=b) (p:=e)).trans hd
  have V:ev (T pp n).toCx (.meth (.idx (.var "bare") (.var "end")) "isalnum" .nil) Z=.ok (.bool (i6 c)) Z :=
   xM (Z':={ toHp:=Z.toHp,loc:=[] }) (xF (qB f1) (qB u) (qDx (by rw [kW]; exact d5 B (by decide)) hx)) (jC bT qTj) (xs:=[]) rfl (by
    rw [bT.bl]
    show bapp _ "str.isalnum" [.str ⟨#[c]⟩] _=_
    rw [qJd]
    show okH (.bool (oQ ⟨#[c]⟩)) _=_
    rw [zOn]; rfl)
  have S:e < b.length:=by
   have:=g8 List.length hd
   rw [u0,m7] at this; exact fK this
  refine ⟨k,rfl,_,Z,_,yC D (λ z=>V),rfl,λ q=>?_,λ q=>?_⟩
  ·rw [d8] at q
   rw [c7 q.2,m7] at he
   refine qIm u (v:=.int 1) rfl (r:=.int ((e+1:Nat):Int)) rfl (gd_nil ⟨e+1,zX2 f1,qC,f3,?_,by exact n_f5 hk he⟩)
   have:b.drop (e+1)=r:=by rw [← gU,hd]; rfl
   rw [this]; exact (l9 _ 1 _).trans he
  ·have:i6 c=false:=by
    rw [h8 (by simp [S]:((e:Nat):Int) < (b.length:Nat)),pB] at q; exact q
   rw [d0 (by rw [this]; decide)] at he
   exact J he
end
section
variable {pp:bA} {n:Nat} {H:Hp} {Z:St} {l mode ns r:Ln} {op p c:Nat} {R:Ln×Nat} {eaten:Ln}
theorem yT {cx:Cx} {a b:X} {x y:Ln} (ha:ev cx a Z=.ok (.str (tx x)) Z) (u:ev cx b Z=.ok (.str (tx y)) Z):ev cx (.cmp .Eq a b) Z=.ok (.bool (x == y)) Z:=qCn ha u
theorem qVv {cx:Cx} {a b:X} {x y:Ln} (ha:ev cx a Z=.ok (.str (tx x)) Z) (u:ev cx b Z=.ok (.str (tx y)) Z):ev cx (.cmp .NotEq a b) Z=.ok (.bool (x != y)) Z:=zOt ha u
theorem zNl:("" : Str)=tx []:=by decide
theorem zPq:("#" : Str)=tx [35]:=by decide
theorem zPo:("\\" : Str)=tx [92]:=by decide
theorem qYz:("\n" : Str)=tx [10]:=by decide
theorem qZk:∀ c < 128,nH "'\"#" (tx [c])=decide (c=39\/c=34\/c=35):=by decide +kernel
theorem qZl {o u:O}:hput (H.add o) H.nxt u=H.add u:=by
 unfold hput
 show Hp.mk _ _=Hp.mk _ _
 refine g8 (λ o=>Hp.mk o (H.nxt+1)) (funext λ j=>?_)
 show (if j=H.nxt then some u else if j=H.nxt then some o else H.obj j)=if j=H.nxt then some u else H.obj j
 split <;> rfl
theorem qAr {z:Str} {a:X} {j:Nat} {v:V} {xs:List V} (B:Z.loc.lookup z=some (.ref j)) (u:Z.obj j=some (.list xs)) (hn:xs.length<=1000) (ha:ev (T pp n).toCx a Z=.ok v Z) :
  ev (T pp n).toCx (.meth (.var z) "append" (.cons a .nil)) Z=.ok .none { Z with toHp:=hput Z.toHp j (.list (xs++[v])) }:=by
 refine xM (Z':={ toHp:=hput Z.toHp j (.list (xs++[v])),loc:=[] }) (first:=[.ref j]) (vf:=.top (.builtin "list.append")) (qB B) ?_ (qJ ha rfl) ?_
 ·rw [bT.get]
  show (kZ (G09 pp) (.ref j) Z.toHp).elim (((asO (Z.toHp.obj j)).map λ xs=>(j,xs)).bind _) _=_
  rw [qAl (pp:=pp) u,show Z.toHp.obj j=_ from u]
  rfl
 ·rw [bT.bl]
  show bapp _ "list.append" [.ref j,v] _=_
  rw [qBh]
  show ((asO (Z.toHp.obj j)).map λ xs=>(j,xs)).elim Rs.bad _=_
  rw [show Z.toHp.obj j=_ from u]
  exact c7 (d5 (by exact m2 hn:xs.length+1<=1001) (by decide))
structure Rf (l mode ns:Ln) (op p:Nat) (H:Hp) (Z:St):Prop where
 text:Z.loc.lookup ("text" : Str)=some (.str (tx l))
 notes:Z.loc.lookup ("notes" : Str)=some (.ref H.nxt)
 mode:Z.loc.lookup ("mode" : Str)=some (.str (tx mode))
 opened:Z.loc.lookup ("opened" : Str)=some (.int (op:Nat))
 place:Z.loc.lookup ("place" : Str)=some (.int (p:Nat))
 hp:Z.toHp=H.add (.list (natsV ns))
 ne:0 < ns.length
noncomputable def zNd:List Str:=["text", "notes", "mode", "opened", "place"]
noncomputable def qYq:List Str:=["sign", "size", "eaten"]
theorem zJk:∀ y∈qYq,∀ z∈zNd,(z == y)=false:=by decide +kernel
theorem Rf.oth (h:Rf l mode ns op p H Z) {y:Str} (hy:y∈qYq) {v:V}:Rf l mode ns op p H (Z.set y v):=by
 have a:=zJk y hy
 exact ⟨qA (a _ (by decide)) h.text,qA (a _ (by decide)) h.notes,qA (a _ (by decide)) h.mode,qA (a _ (by decide)) h.opened,qA (a _ (by decide)) h.place,h.hp,h.ne⟩
theorem Rf.setm (h:Rf l mode ns op p H Z) (m:Ln):Rf l m ns op p H (Z.set "mode" (.str (tx m))) :=
 ⟨zX2 h.text,zX2 h.notes,qC,zX2 h.opened,zX2 h.place,h.hp,h.ne⟩
theorem Rf.seto (h:Rf l mode ns op p H Z) {o:Nat} {i:Int} (hi:i=(o:Nat)):Rf l mode ns o p H (Z.set "opened" (.int i)):=by
 subst hi
 exact ⟨zX2 h.text,zX2 h.notes,zX2 h.mode,qC,zX2 h.place,h.hp,h.ne⟩
theorem Rf.setp (h:Rf l mode ns op p H Z) {q:Nat} {i:Int} (hi:i=(q:Nat)):Rf l mode ns op q H (Z.set "place" (.int i)):=by
 subst hi
 exact ⟨zX2 h.text,zX2 h.notes,zX2 h.mode,zX2 h.opened,qC,h.hp,h.ne⟩
theorem Rf.obj (h:Rf l mode ns op p H Z):Z.obj H.nxt=some (.list (natsV ns)):=by
 show Z.toHp.obj H.nxt=_
 rw [h.hp]; exact c7 rfl
theorem qZc {j:Nat} (u:H.obj j=some (.list (natsV ns))):qIe (.ref j) H=okH (.int (ns.length:Nat)) H:=by
 show (qV H (.ref j)).elim Rs.bad _=_
 show (asO (H.obj j)).elim Rs.bad _=_
 rw [u]
 show okH (.int ((natsV ns).length:Nat)) H=_
 unfold natsV; rw [k0]
theorem qCl {a:X} {x:Ln} (ha:ev (T pp n).toCx a Z=.ok (.str (tx x)) Z):ev (T pp n).toCx (.call (.glob "len") (.cons a .nil)) Z=.ok (.int (x.length:Nat)) Z :=
 qAt ha (by show okH (.int ((tx x).length:Nat)) _=_; rw [kW])
theorem uF {a:Nat} (h:0 < a):((a:Nat):Int) - 1=((a - 1:Nat):Int):=by exact m_h4 h
theorem qWk (h:Rf l mode ns op p H Z) (hd:l.drop p=c::r) (hc:c < 128) (hl:l.length<=200) (hs:Z.loc.lookup ("sign" : Str)=some (.str (tx [c]))) (u:Z.loc.lookup ("size" : Str)=some (.int (1:Nat))) :
  Gd (ex qWl (T pp n) Z) λ f Z'=>f=.next/\Rf l (rstep c r mode ns op).2.1 ns (rstep c r mode ns op).2.2 p H Z'/\Z'.loc.lookup ("size" : Str)=some (.int ((rstep c r mode ns op).1:Nat)):=by
 have hp:p<=(tx l).length:=by
  have:=g8 List.length hd
  rw [u0,m7] at this
  rw [kW]; exact n_f6 this
 have O:(tx l).cps.toList.drop p=c::r:=hd
 have cut:∀ {Z:St} {t:Nat} {b:X} {i:Int},Rf l mode ns op p H Z->ev (T pp n).toCx b Z=.ok (.int i) Z->i=((p+t:Nat):Int)->ev (T pp n).toCx (.slc (.var "text") (.var "place") b) Z=.ok (.str (tx ((c::r).take t))) Z:=λ h U hi=>by
  refine jR (qB h.text) (qB h.place) U ?_
  rw [qBz hp rfl hi,O]; rfl
 have e35:ev (T pp n).toCx (.str "#") Z=.ok (.str (tx [35])) Z:=g8 (λ x=>Rs.ok (V.str x) Z) zPq
 have e92:ev (T pp n).toCx (.str "\\") Z=.ok (.str (tx [92])) Z:=g8 (λ x=>Rs.ok (V.str x) Z) zPo
 have e10:ev (T pp n).toCx (.str "\n") Z=.ok (.str (tx [10])) Z:=g8 (λ x=>Rs.ok (V.str x) Z) qYz
 have e0:∀ {Z:St},ev (T pp n).toCx (.str "") Z=.ok (.str (tx [])) Z:=λ {Z}=>g8 (λ x=>Rs.ok (V.str x) Z) zNl
 have one:∀ {a b:Nat},([a] == [b])=true->a=b:=λ h=>(j5 (eF h)).1
 unfold qWl rstep
 refine qT (yT (qB h.mode) e35) rfl (λ q=>?_) λ q=>?_
 ·rw [c7 (eF q)]
  refine qD (qT (yT (qB hs) e10) rfl (λ D=>?_) λ D=>?_)
  ·rw [c7 (one D)]
   exact qE e0 (gd_nil (gd_nil ⟨rfl,h.setm [],zX2 u⟩))
  ·rw [d0 (λ e=>by rw [e] at D; simp at D)]
   exact gd_nil (gd_nil ⟨rfl,h,u⟩)
 rw [d0 (λ e=>by rw [e] at q; simp at q)]
 refine qY (qT (yT (qB hs) e92) rfl (λ q=>?_) λ q=>?_)
 ·rw [c7 (one q)]
  exact qE (v:=.int (2:Nat)) rfl (gd_nil (gd_nil ⟨rfl,h.oth (by decide),qC⟩))
 rw [d0 (λ e=>by rw [e] at q; simp at q)]
 have c1:=yC (qVv (qB (cx:=(T pp n).toCx) h.mode) e0) (b:=.cmp .Eq (.slc (.var "text") (.var "place") (.bin .Add (.var "place") (.call (.glob "len") (.cons (.var "mode") .nil)))) (.var "mode")) (q:=(c::r).take mode.length == mode) λ _ =>
  yT (cut h (zP (qB h.place) (qCl (qB h.mode))) (by rfl)) (qB h.mode)
 refine qY (qT c1 rfl (λ q=>?_) λ q=>?_)
 ·rw [d8,iP,j8] at q
  rw [c7 q]
  exact qE (qCl (qB h.mode)) (qE e0 (gd_nil (gd_nil (gd_nil ⟨rfl,(h.oth (y:="size") (by decide)).setm [],zX2 qC⟩))))
 rw [d0 (λ e=>by rw [bne_iff_ne.mpr e.1,beq_iff_eq.mpr e.2] at q; cases q)]
 have c2:=yC (yT (qB (cx:=(T pp n).toCx) h.mode) e0) (b:=.cmp .In (.var "sign") (.str "'\"#")) (q:=decide (c=39\/c=34\/c=35)) λ w=>by
  have:=xG (op:=.In) (qB (cx:=(T pp n).toCx) hs) (show ev (T pp n).toCx (.str "'\"#") Z=.ok (.str "'\"#") Z from rfl) (v:=.bool (nH "'\"#" (tx [c]))) rfl
  rwa [qZk c hc] at this
 refine qY (qT c2 rfl (λ q=>?_) λ q=>?_)
 ·rw [d8,j8,j4] at q
  rw [c7 q]
  have S:=yC (qVv (qB (cx:=(T pp n).toCx) hs) e35) (b:=.cmp .Eq (.slc (.var "text") (.var "place") (.bin .Add (.var "place") (.int 3))) (.bin .Mult (.var "sign") (.int 3))) (q:=(c::r).take 3 == [c,c,c]) λ _ =>
   yT (cut h (zP (qB h.place) rfl) (t:=3) (by rfl)) (yU (qB hs) rfl zNg)
  have rest:∀ {Z:St} {t:Nat} {m:Ln},Rf l mode ns op p H Z->Z.loc.lookup ("size" : Str)=some (.int (t:Nat))->(c::r).take t=m->Gd (ex (.seq (.asg "mode" (.slc (.var "text") (.var "place") (.bin .Add (.var "place") (.var "size")))) (.seq (.asg "opened" (.bin .Sub (.call (.glob "len") (.cons (.var "notes") .nil)) (.int 1))) .nil)) (T pp n) Z) (λ f Z'=>f=.next/\Rf l m ns (ns.length - 1) p H Z'/\Z'.loc.lookup ("size" : Str)=some (.int (t:Nat))):=λ {Z t m} h u hm=>by
   refine qE (cut h (zP (qB h.place) (qB u)) (t:=t) (by rfl)) ?_
   rw [hm]
   have h':=h.setm m
   have J:=@qA Z "mode" "size" (.str (tx m)) _ (by decide) u
   generalize Z.set "mode" (.str (tx m))=Z at h' J ⊢
   exact qE (yS (qAt (qB h'.notes) (qZc h'.obj)) rfl) (gd_nil ⟨rfl,h'.seto (uF h'.ne),zX2 J⟩)
  refine qY (qT S rfl (λ B=>?_) λ B=>?_)
  ·rw [d8,iP,j8] at B
   have L:c≠35:=λ e=>B.1 (by rw [e])
   rw [c7 ⟨L,B.2⟩]
   refine qE (v:=.int (3:Nat)) rfl (gd_nil ?_)
   exact (rest (h.oth (by decide)) qC B.2).mono λ f Z' ⟨a,b⟩=>by subst a; exact gd_nil (gd_nil (gd_nil ⟨rfl,b⟩))
  ·rw [d0 (λ e=>by
    have:([c] != [35])=true:=bne_iff_ne.mpr λ z=>e.1 (j5 z).1
    rw [this,beq_iff_eq.mpr e.2] at B; cases B)]
   refine gd_nil ?_
   exact (rest h u rfl).mono λ f Z' ⟨a,b⟩=>by subst a; exact gd_nil (gd_nil (gd_nil ⟨rfl,b⟩))
 rw [d0 (λ e=>by rw [beq_iff_eq.mpr e.1,h8 e.2] at q; cases q)]
 have Y:=yC (yT (qB (cx:=(T pp n).toCx) hs) e10) (b:=.cmp .Eq (.call (.glob "len") (.cons (.var "mode") .nil)) (.int 1)) (q:=decide (mode.length=1)) λ w=>by
  have:=vT (qCl (qB (cx:=(T pp n).toCx) h.mode)) (show ev (T pp n).toCx (.int 1) Z=.ok (.int ((1:Nat):Int)) Z from rfl)
  rwa [vH] at this
 refine qY (qT Y rfl (λ q=>?_) λ q=>?_)
 ·rw [d8,j4] at q
  rw [c7 ⟨one q.1,q.2⟩]
  exact qE e0 (gd_nil (gd_nil (gd_nil (gd_nil (gd_nil ⟨rfl,h.setm [],zX2 u⟩)))))
 ·rw [d0 (λ e=>by rw [e.1,h8 e.2] at q; simp at q)]
  exact gd_nil (gd_nil (gd_nil (gd_nil (gd_nil ⟨rfl,h,u⟩))))
set_option tactic.hygienic true in
theorem qSx:1<=(rstep c r mode ns op).1:=by
 unfold rstep
 split
 ·exact d7 _
 ·split
  ·exact dY 1
  ·split
   ·rename_i h
    exact List.length_pos_iff.mpr h.1
   ·split
    ·split
     ·exact n8 1 2
     ·exact d7 _
    ·split <;> exact d7 _
theorem qRq {k:Nat} (hk:1<=k):∃ u d,(c::r).take k=u++[d]:=by
 obtain ⟨k,rfl⟩:∃ j,k=j+1:=⟨k - 1,by simp [hk]⟩
 rw [dE]
 rcases iK (c::r.take k) with h | ⟨u,d,h⟩
 ·cases h
 ·exact ⟨u,d,by rw [h,fM]⟩
theorem qYl (h:Rf l mode ns op p H Z) (O:Z.loc.lookup ("eaten" : Str)=some (.str (tx eaten))) {u:Ln} {d:Nat} (hu:eaten=u++[d]) (S:eaten.length<=1000) (hn:ns.length<=1000) :
  Gd (ex qYm (T pp n) Z) λ f Z'=>f=.next/\Rf l mode (rnote eaten mode ns) op p H Z':=by
 have e10:ev (T pp n).toCx (.str "\n") Z=.ok (.str (tx [10])) Z:=g8 (λ x=>Rs.ok (V.str x) Z) qYz
 have e0:ev (T pp n).toCx (.str "") Z=.ok (.str (tx [])) Z:=g8 (λ x=>Rs.ok (V.str x) Z) zNl
 have B:eaten.getLast? = some d:=by rw [hu,u8]
 have ha:∀ v:Nat,Rf l mode (ns++[v]) op p H { Z with toHp:=hput Z.toHp H.nxt (.list (natsV ns++[.int (v:Nat)])) }:=λ v =>
  ⟨h.text,h.notes,h.mode,h.opened,h.place,by
   show hput Z.toHp _ _=_
   rw [h.hp,qZl]
   unfold natsV; rw [eH]; rfl,by rw [g7]; exact Nat.lt_add_right _ h.ne⟩
 have J:(natsV ns).length<=1000:=by unfold natsV; rw [k0]; exact hn
 unfold qYm rnote
 rw [B]
 have hi:wF Z.toHp (.str (tx eaten)) (.int (-1))=.ok (.str (tx [d])):=qGm (by rw [kW]; exact S) (x:=tx eaten) hu
 refine qT (yT (xF (qB O) yB hi) e10) rfl (λ q=>?_) λ q=>?_
 ·have hd:d=10:=(j5 (eF q)).1
  rw [c7 (by rw [hd])]
  refine qY (qT (qVv (qB h.mode) e0) rfl (λ D=>?_) λ D=>?_)
  ·rw [c7 (bne_iff_ne.mp D)]
   exact xI (qAr h.notes h.obj J rfl) (gd_nil (gd_nil ⟨rfl,ha 2⟩))
  ·rw [d0 (λ e=>by rw [bne_iff_ne.mpr e] at D; cases D)]
   have L:0 < eaten.length:=by rw [hu,g7]; exact lJ _
   have hv:=yS (qCl (pp:=pp) (n:=n) (qB O)) (show ev (T pp n).toCx (.int 1) Z=.ok (.int 1) Z from rfl)
   rw [uF L] at hv
   exact xI (qAr h.notes h.obj J hv) (gd_nil (gd_nil ⟨rfl,ha _⟩))
 ·rw [d0 (λ e=>by rw [j7 e] at q; simp at q)]
  exact gd_nil ⟨rfl,h⟩
theorem qSz:(rnote eaten mode ns).length<=ns.length+1:=by
 unfold rnote
 split
 ·rw [g7]; exact d7 _
 ·exact dY _
theorem qYv (hl:l.length<=200) (h1:∀ c∈l,c < 128) {k:Nat} (hk:k<=1000) (S:ns.length<=p+1) (h:Rf l mode ns op p H Z) (L:rd k (l.drop p) mode ns op=some R) :
  Gd (ex zJy (T pp n) Z) λ f Z'=>f=.next/\∃ p' mode',Rf l mode' R.1 R.2 p' H Z':=by
 refine uR (λ fuel Z=>∃ k p mode ns op,k<=fuel/\ns.length<=p+1/\Rf l mode ns op p H Z/\rd k (l.drop p) mode ns op=some R) ⟨k,p,mode,ns,op,hk,S,h,L⟩ ?_
 rintro fuel Z ⟨k,p,mode,ns,op,hk,S,h,L⟩
 cases k with
 | zero=>exact zN1 L
 | succ k =>
 refine ⟨fuel - 1,by exact n_b2 hk,_,Z,_,qJn (qB h.place) (qCl (qB h.text)),rfl,λ q=>?_,λ q=>?_⟩
 ·have a5:p < l.length:=by have:=m5 q; lia
  cases hd:l.drop p with
  | nil=>exact f8 (List.drop_eq_nil_iff.mp hd) (Nat.not_le.mpr a5)
  | cons c r =>
   rw [hd] at L
   have O:rd k ((c::r).drop (rstep c r mode ns op).1) (rstep c r mode ns op).2.1 (rnote ((c::r).take (rstep c r mode ns op).1) (rstep c r mode ns op).2.1 ns) (rstep c r mode ns op).2.2=some R:=L
   rw [← hd,gU,hd] at O
   have X:(tx l).cps.toList.drop p=c::r:=hd
   have a4:c∈l:=by
    have:c∈l.drop p:=by rw [hd]; exact .head _
    exact eK this
   unfold zJz
   refine qE (xF (qB h.text) (qB h.place) (qDx (by rw [kW]; exact d5 hl (by decide)) X)) ?_
   have hs:=@qC Z "sign" (.str ⟨#[c]⟩)
   replace h:=h.oth (y:="sign") (v:=.str ⟨#[c]⟩) (by decide)
   generalize Z.set "sign" (.str ⟨#[c]⟩)=Z at h hs ⊢
   refine qE (v:=.int (1:Nat)) rfl ?_
   have D:=@qC Z "size" (.int (1:Nat))
   replace hs:=@qA Z "size" "sign" (.int (1:Nat)) _ (by decide) hs
   replace h:=h.oth (y:="size") (v:=.int (1:Nat)) (by decide)
   generalize Z.set "size" (.int (1:Nat))=Z at h hs D ⊢
   refine qY ((qWk h hd (h1 c a4) hl hs D).mono ?_)
   clear h hs D
   have J:=qSx (c:=c) (r:=r) (mode:=mode) (ns:=ns) (op:=op)
   rintro f Z ⟨rfl,h,D⟩
   generalize rstep c r mode ns op=st at h D O J
   refine bC λ n0=>?_
   obtain ⟨B,mode',a3⟩:=st
   refine n0 ?_
   dsimp only at h D O J
   have Y:ev (T pp n).toCx (.slc (.var "text") (.var "place") (.bin .Add (.var "place") (.var "size"))) Z=.ok (.str (tx ((c::r).take B))) Z:=by
    refine jR (qB h.text) (qB h.place) (zP (qB h.place) (qB D)) ?_
    rw [qBz (t:=B) (by rw [kW]; lia) rfl (by rfl),X]; rfl
   refine qE Y ?_
   have U:=@qC Z "eaten" (.str (tx ((c::r).take B)))
   replace D:=@qA Z "eaten" "size" (.str (tx ((c::r).take B))) _ (by decide) D
   replace h:=h.oth (y:="eaten") (v:=.str (tx ((c::r).take B))) (by decide)
   generalize Z.set "eaten" (.str (tx ((c::r).take B)))=Z at h U D ⊢
   refine qIm h.place (qB D) (r:=.int ((p:Int)+(B:Int))) rfl ?_
   replace U:=@qA Z "place" "eaten" (.int ((p:Int)+(B:Int))) _ (by decide) U
   replace h:=h.setp (q:=p+B) (i:=(p:Int)+(B:Int)) (by rfl)
   generalize Z.set "place" (.int ((p:Int)+(B:Int)))=Z at h U ⊢
   refine bC λ n0=>?_
   obtain ⟨u,d,hu⟩:=qRq (c:=c) (r:=r) J
   refine n0 ?_
   have V:=g8 List.length hd
   rw [u0] at V
   refine qY ((qYl h U hu (by rw [dS]; exact m_e2 hl V) (by lia)).mono ?_)
   rintro f Z ⟨rfl,h⟩
   refine gd_nil ⟨k,p+B,mode',_,a3,by exact fO hk,?_,h,O⟩
   have:=qSz (eaten:=(c::r).take B) (mode:=mode') (ns:=ns)
   exact m_e3 S J this
 ·have a2:l.length<=p:=by have:=v8 q; lia
  rw [eL a2] at L
  cases L
  exact gd_nil ⟨rfl,p,mode,h⟩
theorem qXt (J:l.length<=200) (D:∀ c∈l,c < 128) (L:rd 1000 l [] [0] 0=some R) :
  ∃ Z',(T pp (n+1)).app (.top (.ref 247)) [.str (tx l)] H=.ok (.tup [.ref H.nxt,.int (R.2:Nat)]) Z'/\Z'.toHp=H.add (.list (natsV R.1)):=by
 refine qEo (· = H.add (.list (natsV R.1))) (by decide) (by rfl) rfl λ Z O g2=>?_
 have g1:Z.loc.lookup ("text" : Str)=some (.str (tx l)):=by rw [O]; rfl
 subst g2
 unfold qIb
 refine qD (qOi (xs:=natsV [0]) (a0:=Z) (xO (qJ rfl rfl) (by decide)) ?_)
 have f1:((Z.add (.list (natsV [0]))).set "notes" (.ref Z.nxt)).loc.lookup ("text" : Str)=some (.str (tx l)):=zX2 g1
 have u:((Z.add (.list (natsV [0]))).set "notes" (.ref Z.nxt)).loc.lookup ("notes" : Str)=some (.ref Z.toHp.nxt):=qC
 have f3:((Z.add (.list (natsV [0]))).set "notes" (.ref Z.nxt)).toHp=Z.toHp.add (.list (natsV [0])):=rfl
 generalize (Z.add (.list (natsV [0]))).set "notes" (.ref Z.nxt)=τ at f1 u f3 ⊢
 generalize Z.toHp=H at u f3 ⊢
 refine qE (v:=.str (tx [])) (g8 (λ x=>Rs.ok (V.str x) τ) zNl) ?_
 refine qE (v:=.int (0:Nat)) rfl ?_
 refine qE (v:=.int (0:Nat)) rfl ?_
 have B:Rf l [] [0] 0 0 H (((τ.set "mode" (.str (tx []))).set "opened" (.int (0:Nat))).set "place" (.int (0:Nat))) :=
  ⟨zX2 (zX2 (zX2 f1)),zX2 (zX2 (zX2 u)),zX2 (zX2 qC),zX2 qC,qC,f3,Nat.one_pos⟩
 generalize ((τ.set "mode" (.str (tx []))).set "opened" (.int (0:Nat))).set "place" (.int (0:Nat))=τ at B ⊢
 refine qY ((qYv (k:=1000) J D (d7 _) (by decide) B (by rw [lM]; exact L)).mono ?_)
 rintro f Z' ⟨rfl,p',mode',h⟩
 exact qD (kL (qVt (qJ (qB h.notes) (qJ (qB h.opened) rfl)) (by show 2<=g0; decide)) ⟨rfl,h.hp⟩)
end
def Gr (H:Hp):Ln->List (Ln)->Prop
 | [],[]=>True
 | j::js,g::gs=>H.obj j=some (.list (natsV g))/\Gr H js gs
 | _,_=>False
section
variable {pp:bA} {n:Nat} {H H':Hp} {Z:St} {js:Ln} {gs:List (Ln)}
theorem Gr.len:∀ {js:Ln} {gs:List (Ln)},Gr H js gs->js.length=gs.length
 | [],[],_=>rfl
 | _::_,_::_,h=>g8 oB (Gr.len h.2)
theorem Gr.same:∀ {js:Ln} {gs:List (Ln)},Gr H js gs->(∀ j∈js,H'.obj j=H.obj j)->Gr H' js gs
 | [],[],_,_=>trivial
 | j::_,_::_,h,e=>⟨(e j (.head _)).trans h.1,Gr.same h.2 λ j hj=>e j (.tail _ hj)⟩
theorem Gr.app:∀ {js u:Ln} {gs B:List (Ln)},Gr H js gs->Gr H u B->Gr H (js++u) (gs++B)
 | [],_,[],_,_,h=>h
 | _::_,_,_::_,_,h,h'=>⟨h.1,Gr.app h.2 h'⟩
theorem Gr.drop:∀ {k:Nat} {js:Ln} {gs:List (Ln)},Gr H js gs->Gr H (js.drop k) (gs.drop k)
 | 0,_,_,h=>h
 | _+1,[],[],h=>h
 | k+1,_::_,_::_,h=>Gr.drop (k:=k) h.2
theorem Gr.last:∀ {js:Ln} {gs:List (Ln)},Gr H js gs->gs≠[]->∃ B j u g,js=B++[j]/\gs=u++[g]/\Gr H B u/\H.obj j=some (.list (natsV g))
 | [],[],_,h=>f8 rfl h
 | [j],[g],h,_=>⟨[],j,[],g,rfl,rfl,trivial,h.1⟩
 | j::j'::js,g::g'::gs,h,_=>by
  refine bC λ D=>?_
  obtain ⟨a,b,c,d,e1,e2,e3,e4⟩:=Gr.last h.2 (eA _ _)
  refine D ?_
  exact ⟨j::a,b,g::c,d,by rw [e1]; rfl,by rw [e2]; rfl,⟨h.1,e3⟩,e4⟩
 | _::_::_,[_],h,_=>h.2.elim
 | [_],_::_::_,h,_=>h.2.elim
theorem Gr.at_:∀ {js:Ln} {gs:List (Ln)},Gr H js gs->∀ j∈js,∃ g∈gs,H.obj j=some (.list (natsV g))
 | j::_,g::_,h,_,.head _=>⟨g,.head _,h.1⟩
 | _::_,_::_,h,_,.tail _ hm=>by
  obtain ⟨g,u,h2⟩:=Gr.at_ h.2 _ hm
  exact ⟨g,.tail _ u,h2⟩
theorem qEd {m:Nat} (l:Ln):(natsV l).mapM (dat H (m+1))=some (l.map λ (i:Nat)=>gS (i:Int)):=by
 have:=qLm (H:=H) (m:=m) (l.map λ (i:Nat)=>(i:Int))
 rw [hK,hK] at this
 exact this
theorem qIv {m:Nat}:∀ {xs:List V},(∀ v∈xs,∃ d,dat H m v=some d)->∃ u,xs.mapM (dat H m)=some u/\u.isEmpty=xs.isEmpty
 | [],_=>⟨[],rfl,rfl⟩
 | v::xs,h=>by
  obtain ⟨d,hd⟩:=h v (.head _)
  obtain ⟨u,B,_⟩:=qIv λ v hv=>h v (.tail _ hv)
  exact ⟨d::u,by rw [oJ,hd,B]; rfl,rfl⟩
theorem qQx {m j:Nat} {g:Ln} (h:H.obj j=some (.list (natsV g))):∃ d,dat H (m+2) (.ref j)=some d:=by
 refine ⟨.list (g.map λ (i:Nat)=>gS (i:Int)),?_⟩
 show ((asO (H.obj j)).bind λ xs=>(xs.mapM (dat H (m+1))).map gZ)=_
 rw [h]
 show ((natsV g).mapM (dat H (m+1))).map gZ=_
 rw [qEd]; rfl
theorem qPx {a:V} {u:List PyData} (h:dat H 8 a=some (.list u)):vG H .NotEq a (.list [])=.ok (.bool (!u.isEmpty)):=by
 show qGt ((((dat H 8 a).bind λ x=>(dat H 8 (.list [])).map λ y=>v7 x y)).map (!·))=_
 rw [h]
 show Ov.ok (.bool (!PyData.eqv (.list u) (.list [])))=_
 rw [v7]
 cases u with
 | nil=>rw [iU]; rfl
 | cons a l=>rw [iU]; rfl
theorem qHx {j:Nat} {xs:List V} (B:H.obj j=some (.list xs)) (h:∀ v∈xs,∃ d,dat H 7 v=some d):vG H .NotEq (.ref j) (.list [])=.ok (.bool (!xs.isEmpty)):=by
 obtain ⟨D,u,h2⟩:=qIv h
 rw [← h2]
 refine qPx ?_
 show ((asO (H.obj j)).bind λ xs=>(xs.mapM (dat H 7)).map gZ)=_
 rw [B]
 show (xs.mapM (dat H 7)).map gZ=_
 rw [u]; rfl
theorem zHh {xs:List V} (h:∀ v∈xs,∃ d,dat H 7 v=some d):vG H .NotEq (.list xs) (.list [])=.ok (.bool (!xs.isEmpty)):=by
 obtain ⟨B,u,h2⟩:=qIv h
 rw [← h2]
 refine qPx ?_
 show (xs.mapM (dat H 7)).map gZ=_
 rw [u]; rfl
theorem qLl {m:Nat} {l:Ln}:∀ v∈natsV l,∃ d,dat H (m+1) v=some d:=λ v hv=>by
 obtain ⟨i,_,rfl⟩:=List.mem_map.mp hv
 exact ⟨_,rfl⟩
theorem qAv {l:Ln}:(natsV l).isEmpty=l.isEmpty:=by cases l <;> rfl
theorem qQi {r:Nat} {l:Ln}:vG H .In (.int (r:Nat)) (.list (natsV l))=.ok (.bool (l.contains r)):=by
 show qGt ((qV H (.list (natsV l))).bind λ u=>(u.mapM (dat H 7)).map λ l=>l.any λ y=>v7 y (.int (r:Nat)))=_
 show qGt (((natsV l).mapM (dat H 7)).map λ l=>l.any λ y=>v7 y (.int (r:Nat)))=_
 rw [qEd]
 show Ov.ok (.bool ((l.map λ (i:Nat)=>gS (i:Int)).any λ y=>v7 y (.int (r:Nat))))=_
 rw [any_map,mP]
 congr 3
 funext i
 show v7 (.int (i:Int)) (.int (r:Nat))=_
 rw [v7]
 exact Bool.eq_iff_iff.mpr (by rw [j8,j8]; exact ⟨λ h=>by exact Int.ofNat_inj.mp (id (nA h)),λ h=>by simp [h]⟩)
theorem wE {a:V} {l:Ln} {i v:Nat} (hs:qQ a=none) (h:qV H a=some (natsV l)) (hi:i<=1000) (hv:l[i]? = some v):wF H a (.int (i:Nat))=.ok (.int (v:Nat)) :=
 uP (xs:=natsV l) (j:=i) hs h (jO (by simp) (by exact pX rfl rfl hi)) (qCa (by unfold natsV; rw [k0]; exact (List.getElem?_eq_some_iff.mp hv).1)) (by unfold natsV; rw [hA,hv]; rfl)
theorem qAm {a v:V} {xs:List V} (hs:qQ a=none) (h:qV H a=some xs) (hv:xs.getLast? = some v):wF H a (.int (-1))=.ok v :=
 uP (xs:=xs) (j:=xs.length - 1) hs h (by decide) (qXl (by cases xs with | nil=>cases hv | cons=>exact lJ _)) (by rw [← dK]; exact hv)
theorem zBg {l:Ln}:cut l (some (-1)) none=l.getLast?.toList:=by
 rcases iK l with h | ⟨u,d,h⟩
 ·rw [h]; rfl
 ·rw [h,fM,u8]
  show ((u++[d]).drop (clipAt (u++[d]).length (-1))).take ((u++[d]).length - clipAt (u++[d]).length (-1))=[d]
  have:clipAt (u++[d]).length (-1)=u.length:=by
   unfold clipAt
   rw [g7,k8,c7 (by decide)]
   exact m_e4
  rw [this,oV,g7,k8,v3]; rfl
theorem zBi {xs:List V}:cut xs (some (-5)) none=xs.drop (xs.length - 5):=by
 show (xs.drop (clipAt xs.length (-5))).take (xs.length - clipAt xs.length (-5))=_
 have:clipAt xs.length (-5)=xs.length - 5:=by
  unfold clipAt
  rw [c7 (by decide)]
  exact m_e5
 rw [this,t7 (by rw [u0]; exact d7 _)]
theorem zCo {cx:Cx} {Z a0:St} {o as:X} {m:Str} {vo vf v:V} {first xs:List V} {Z':St} (u:ev cx o Z=.ok vo Z) (hg:cx.get vo m Z.toHp=some (vf,first)) (ha:ev cx as Z=.ok (.list xs) a0) (h:cx.app vf (first++xs) a0.toHp=.ok v Z'):ev cx (.meth o m as) Z=.ok v { a0 with toHp:=Z'.toHp }:=by
 rw [qLd,Rs.bind_ok u,hg]
 show (ev cx as Z).bind _=_
 rw [Rs.bind_ok ha]
 show (cx.app vf (first++xs) a0.toHp).lift a0=_
 rw [h]; rfl
theorem qHa {o a:X} {j:Nat} {v:V} {xs:List V} {a0:St} (D:ev (T pp n).toCx o Z=.ok (.ref j) Z) (B:Z.obj j=some (.list xs)) (hn:xs.length<=1000) (ha:ev (T pp n).toCx a Z=.ok v a0) (u:a0.obj j=some (.list xs)) :
  ev (T pp n).toCx (.meth o "append" (.cons a .nil)) Z=.ok .none { a0 with toHp:=hput a0.toHp j (.list (xs++[v])) }:=by
 refine zCo (Z':={ toHp:=hput a0.toHp j (.list (xs++[v])),loc:=[] }) (first:=[.ref j]) (vf:=.top (.builtin "list.append")) D ?_ (zCp ha rfl) ?_
 ·rw [bT.get]
  show (kZ (G09 pp) (.ref j) Z.toHp).elim (((asO (Z.toHp.obj j)).map λ xs=>(j,xs)).bind _) _=_
  rw [qAl (pp:=pp) B,show Z.toHp.obj j=_ from B]
  rfl
 ·rw [bT.bl]
  show bapp _ "list.append" [.ref j,v] _=_
  rw [qBh]
  show ((asO (a0.toHp.obj j)).map λ xs=>(j,xs)).elim Rs.bad _=_
  rw [show a0.toHp.obj j=_ from u]
  exact c7 (d5 (by exact m2 hn:xs.length+1<=1001) (by decide))
theorem qAj {a b:Ln}:natsV (a++b)=natsV a++natsV b:=eH
theorem kU {l:Ln}:(natsV l).length=l.length:=k0 _
structure Gs (rs:List (Ln)) (H:Hp) (nid:Nat) (E:Ln) (G:List (Ln)) (Z:St):Prop where
 rows:Z.loc.lookup ("rows" : Str)=some (.list ((rs.map tx).map .str))
 every:Z.loc.lookup ("every" : Str)=some (.ref (H.nxt+2))
 groups:Z.loc.lookup ("groups" : Str)=some (.ref (H.nxt+3))
 cel:Z.cel=[(("free" : Str),H.nxt+1),(("notes" : Str),H.nxt)]
 nts:Z.obj H.nxt=some (.cell (some (.ref nid)))
 fre:Z.obj (H.nxt+1)=some (.cell none)
 ev:Z.obj (H.nxt+2)=some (.list (natsV E))
 gr:∃ js:Ln,Z.obj (H.nxt+3)=some (.list (js.map .ref))/\Gr Z.toHp js G/\js.Nodup/\∀ j∈js,H.nxt+4<=j/\j < Z.nxt
 nx:H.nxt+4<=Z.nxt
 old:∀ i,i < H.nxt->Z.obj i=H.obj i
variable {rs G:List (Ln)} {nid:Nat} {E l:Ln} {k:Nat}
theorem Gs.setk (h:Gs rs H nid E G Z) {v:V}:Gs rs H nid E G (Z.set "k" v) :=
 ⟨zX2 h.rows,zX2 h.every,zX2 h.groups,h.cel,h.nts,h.fre,h.ev,h.gr,h.nx,h.old⟩
theorem qXo (h:Gs rs H nid E G Z) (hk:Z.loc.lookup ("k" : Str)=some (.int (k:Nat))) (u:rs[k]? = some l) (hn:rs.length<=200):ev (T pp n).toCx (.idx (.var "rows") (.var "k")) Z=.ok (.str (tx l)) Z:=by
 refine xF (qB h.rows) (qB hk) (uO ?_ (by rw [hA,u]; rfl))
 have:=(List.getElem?_eq_some_iff.mp u).1
 lia
theorem zRx (h:Gs rs H nid E G Z) (D:E.length<=1000) (hk:Z.loc.lookup ("k" : Str)=some (.int (k:Nat))):∃ Z',ev (T pp n).toCx (.meth (.var "every") "append" (.cons (.var "k") .nil)) Z=.ok .none Z'/\Gs rs H nid (E++[k]) G Z'/\Z'.loc=Z.loc:=by
 refine ⟨_,qAr h.every h.ev (by rw [kU]; exact D) (qB hk),⟨h.rows,h.every,h.groups,h.cel,(qH (by simp)).trans h.nts,(qH (by exact n_b4)).trans h.fre,?_,?_,h.nx,λ i hi=>(qH (by lia)).trans (h.old i hi)⟩,rfl⟩
 ·show (hput Z.toHp _ _).obj _=_
  rw [xW,qAj]; rfl
 ·obtain ⟨js,g1,g2,B,u⟩:=h.gr
  exact ⟨js,(qH (by exact n_d8)).trans g1,g2.same λ j hj=>qH (by have:=(u j hj).1; lia),B,u⟩
theorem zRc (h:Gs rs H nid E G Z) (L:G.length<=1000):∃ Z',ev (T pp n).toCx (.meth (.var "groups") "append" (.cons (.newl .nil) .nil)) Z=.ok .none Z'/\Gs rs H nid E (G++[[]]) Z'/\Z'.loc=Z.loc:=by
 refine bC λ O=>?_
 obtain ⟨js,g1,g2,J,D⟩:=h.gr
 refine O ?_
 have u:=h.nx
 have B:∀ i,i < Z.nxt->(Z.add (.list [])).obj i=Z.obj i:=λ i hi=>d0 (r9 hi)
 have ha:ev (T pp n).toCx (.newl .nil) Z=.ok (.ref Z.nxt) (Z.add (.list [])):=by
  rw [zAi]
  show fits 0 (.ok (.ref Z.nxt) (Z.add (.list [])))=_
  exact c7 (m9 _)
 refine ⟨_,qHa (qB h.groups) g1 (by rw [k0,g2.len]; exact L) ha ((B _ (by exact u)).trans g1),⟨h.rows,h.every,h.groups,h.cel,(qH (by simp)).trans ((B _ (by exact w8 u)).trans h.nts),(qH (by simp)).trans ((B _ (by lia)).trans h.fre),(qH (by exact n_d9)).trans ((B _ (by exact n1 u)).trans h.ev),⟨js++[Z.nxt],?_,?_,?_,?_⟩,?_,λ i hi=>(qH (by lia)).trans ((B _ (by exact m_e6 u hi)).trans (h.old i hi))⟩,rfl⟩
 ·show (hput (Z.add (.list [])).toHp _ _).obj _=_
  rw [xW,eH]; rfl
 ·refine Gr.app (g2.same λ j hj=>?_) ⟨?_,trivial⟩
  ·have:=D j hj
   exact (qH (by lia)).trans (B _ this.2)
  ·exact (qH (by exact v9 u)).trans (c7 rfl)
 ·refine List.nodup_append.mpr ⟨J,List.nodup_cons.mpr ⟨eX,oR⟩,λ a ha b S=>?_⟩
  rw [List.mem_singleton.mp S]
  exact r9 (D a ha).2
 ·intro j hj
  show _/\j < Z.nxt+1
  rcases List.mem_append.mp hj with hj | hj
  ·exact ⟨(D j hj).1,k9 (D j hj).2⟩
  ·rw [List.mem_singleton.mp hj]; exact ⟨u,n5 _⟩
 ·exact j6 u
theorem zRw (h:Gs rs H nid E G Z) (B:G≠[]) (J:∀ g∈G,g.length<=1000) (hk:Z.loc.lookup ("k" : Str)=some (.int (k:Nat))):∃ Z',ev (T pp n).toCx (.meth (.idx (.var "groups") (.neg (.int 1))) "append" (.cons (.var "k") .nil)) Z=.ok .none Z'/\Gs rs H nid E (Tx.addL G k) Z'/\Z'.loc=Z.loc:=by
 refine bC λ L=>?_
 obtain ⟨js,g1,g2,u,D⟩:=h.gr
 obtain ⟨S,j,O,g,e1,e2,e3,e4⟩:=g2.last B
 refine L ?_
 have hj:=D j (by rw [e1]; exact w7 _ (.head _))
 have hi:ev (T pp n).toCx (.idx (.var "groups") (.neg (.int 1))) Z=.ok (.ref j) Z:=xF (qB h.groups) yB (qAm (a:=.ref (H.nxt+3)) rfl (show asO (Z.obj (H.nxt+3))=some (js.map .ref) by rw [g1]; rfl) (by rw [e1,eH]; exact u8))
 refine ⟨_,qHa hi e4 (by rw [kU]; exact J g (by rw [e2]; exact w7 _ (.head _))) (qB hk) e4,⟨h.rows,h.every,h.groups,h.cel,(qH (by lia)).trans h.nts,(qH (by lia)).trans h.fre,(qH (by lia)).trans h.ev,⟨js,(qH (by lia)).trans g1,?_,u,D⟩,h.nx,λ i hi=>(qH (by exact m_e7 hj hi)).trans (h.old i hi)⟩,rfl⟩
 rw [e2,Tx.addL_app,e1]
 rw [e1] at u
 refine Gr.app (e3.same λ i hi=>qH λ q=>?_) ⟨?_,trivial⟩
 ·exact (List.nodup_append.mp u).2.2 i hi j (.head _) q
 ·show (hput Z.toHp _ _).obj _=_
  rw [xW,qAj]; rfl
end
end Mine.Lake.L09
namespace Mine.Lake.Tx
section
variable {W C:Nat->Bool}
set_option tactic.hygienic true in
theorem grp_len:∀ (k:Nat),(grp W C k).length<=k/\∀ g∈grp W C k,g.length<=k
 | 0=>⟨d7 _,λ q h=>(nomatch h)⟩
 | k+1=>by
  obtain ⟨a,b⟩:=grp_len k
  have B:(gCol C k (grp W C k)).length<=k+1/\∀ g∈gCol C k (grp W C k),g.length<=k:=by
   unfold gCol
   split
   ·refine ⟨by rw [g7]; exact u9 a,λ g hg=>?_⟩
    rcases List.mem_append.mp hg with hg | hg
    ·exact b g hg
    ·rw [List.mem_singleton.mp hg]; exact m9 _
   ·exact ⟨j6 a,b⟩
  show (gWord W k (gCol C k (grp W C k))).length<=k+1/\∀ g∈gWord W k (gCol C k (grp W C k)),g.length<=k+1
  generalize gCol C k (grp W C k)=G at B
  unfold gWord
  split
  ·rename_i hw
   obtain ⟨u,d,hu⟩:∃ u d,G=u++[d]:=⟨G.dropLast,G.getLast hw.2,(lG _).symm⟩
   rw [hu] at B ⊢
   rw [addL_app]
   refine ⟨by rw [g7] at B ⊢; exact B.1,λ g hg=>?_⟩
   rcases List.mem_append.mp hg with hg | hg
   ·exact j6 (B.2 g (oW _ hg))
   ·rw [List.mem_singleton.mp hg,g7]
    exact u9 (B.2 d (w7 _ (.head _)))
  ·exact ⟨B.1,λ g hg=>j6 (B.2 g hg)⟩
theorem every_succ {k:Nat}:everyW W (k+1)=everyW W k++if W k=true then [k] else []:=by
 unfold everyW
 rw [List.range_succ,gM]
 congr 1
 by_cases h:W k=true
 ·rw [c7 h,u7 h]; rfl
 ·rw [d0 h,cO h]; rfl
theorem every_len {k:Nat}:(everyW W k).length<=k:=by
 unfold everyW
 exact d5 (iL ..) (by rw [List.length_range]; exact d7 _)
theorem opens_eq {F g:Ln}:opens F g=(!g.isEmpty && F.contains (g.headD 0)):=by cases g <;> rfl
end
end Mine.Lake.Tx
namespace Mine.Lake.L09
open PySem PySem.W PyProof.Rows Mine.Lake Mine.Lake.Rp Mine.Lake.Re MineTop
noncomputable def sixS:List Str:=["def", "else", "try", "return", "\x69mport", "class"]
theorem zKz:sixS=Tx.words6.map tx:=by decide +kernel
section
variable {pp:bA} {n:Nat} {H:Hp} {Z:St} {rs G:List (Ln)} {nid k:Nat} {E l:Ln}
theorem zNp {w:Ln}:vG H .In (.str (tx w)) (.list (sixS.map .str))=.ok (.bool (Tx.words6.contains w)):=by
 show Ov.ok (.bool ((sixS.map PyData.str).any λ y=>v7 y (.str (tx w))))=_
 rw [any_map]
 have:(λ y=>v7 y (.str (tx w))) ∘ PyData.str=λ v=>v == tx w:=by
  funext v
  show v7 (.str v) (.str (tx w))=_
  rw [v7]
 rw [this,zKz,any_map,mP]
 congr 3
 funext v
 refine Bool.eq_iff_iff.mpr ?_
 show (tx v == tx w)=true ↔ (w == v)=true
 rw [j8,j8]
 exact ⟨λ h=>(zKm h).symm,λ h=>by rw [h]⟩
theorem zPp:(":" : Str)=tx [58]:=by decide
structure RowOk (l:Ln):Prop where
 nb:Tx.nb l=true
 low:∀ c∈l,c < 128
 len:l.length<=200
theorem body_run (h:Gs rs H nid (Tx.everyW (Tx.wordB rs) k) (Tx.grp (Tx.wordB rs) (Tx.colonAt rs) k) Z) (hk:Z.loc.lookup ("k" : Str)=some (.int (k:Nat))) (U:rs[k]? = some l) (Y:RowOk l) (hn:rs.length<=200) :
  Gd (ex (.seq zIx (.seq qVr .nil)) (T pp (n+1)) Z) λ f Z'=>f=.next/\Gs rs H nid (Tx.everyW (Tx.wordB rs) (k+1)) (Tx.grp (Tx.wordB rs) (Tx.colonAt rs) (k+1)) Z':=by
 have B:=(List.getElem?_eq_some_iff.mp U).1
 obtain ⟨b1,b2⟩:=Tx.grp_len (W:=Tx.wordB rs) (C:=Tx.colonAt rs) k
 have e58:ev (T pp (n+1)).toCx (.str ":") Z=.ok (.str (tx [58])) Z:=g8 (λ x=>Rs.ok (V.str x) Z) zPp
 have S:ev (T pp (n+1)).toCx (.slc (.idx (.var "rows") (.var "k")) (.neg (.int 1)) .none) Z=.ok (.str (tx l.getLast?.toList)) Z:=by
  refine jR (qXo h hk U hn) yB (show ev (T pp (n+1)).toCx .none Z=.ok .none Z from rfl) ?_
  rw [qKb]
  show Ov.ok (.str (tx (cut l (some (-1)) none)))=_
  rw [zBg]
 have hC:(l.getLast?.toList == [58])=Tx.colonAt rs k:=by
  unfold Tx.colonAt
  rw [U]
  show _=(l.getLast? == some 58)
  cases l.getLast? with
  | none=>rfl
  | some d =>
   refine Bool.eq_iff_iff.mpr ?_
   rw [j8,j8]
   exact ⟨λ h=>g8 some (j5 h).1,λ h=>g8 (λ x=>[x]) (j7 h)⟩
 have D:Gd (ex zIx (T pp (n+1)) Z) λ f Z'=>f=.next/\Gs rs H nid (Tx.everyW (Tx.wordB rs) k) (Tx.gCol (Tx.colonAt rs) k (Tx.grp (Tx.wordB rs) (Tx.colonAt rs) k)) Z'/\Z'.loc.lookup ("k" : Str)=some (.int (k:Nat)):=by
  unfold zIx Tx.gCol
  have u:=yT S e58
  rw [hC] at u
  refine qT u rfl (λ q=>?_) λ q=>?_
  ·rw [c7 q]
   obtain ⟨Z',e,h',L⟩:=zRc (pp:=pp) (n:=n+1) h (by exact m_e8 hn B b1)
   exact xI e (gd_nil ⟨rfl,h',by rw [L]; exact hk⟩)
  ·rw [d0 (by rw [q]; decide)]
   exact gd_nil ⟨rfl,h,hk⟩
 refine qY (D.mono ?_)
 clear D S e58 hC h hk
 rintro f Z ⟨rfl,h,hk⟩
 have hG:(Tx.gCol (Tx.colonAt rs) k (Tx.grp (Tx.wordB rs) (Tx.colonAt rs) k)).length<=1000/\∀ g∈Tx.gCol (Tx.colonAt rs) k (Tx.grp (Tx.wordB rs) (Tx.colonAt rs) k),g.length<=1000:=by
  unfold Tx.gCol
  split
  ·refine ⟨by rw [g7,k8]; exact m_e9 hn B b1,λ g hg=>?_⟩
   rcases List.mem_append.mp hg with hg | hg
   ·have:=b2 g hg; exact m_e8 hn B this
   ·rw [List.mem_singleton.mp hg]; exact m9 _
  ·exact ⟨by exact m_e8 hn B b1,λ g hg=>by have:=b2 g hg; exact m_e8 hn B this⟩
 have eG:Tx.grp (Tx.wordB rs) (Tx.colonAt rs) (k+1)=Tx.gWord (Tx.wordB rs) k (Tx.gCol (Tx.colonAt rs) k (Tx.grp (Tx.wordB rs) (Tx.colonAt rs) k)):=rfl
 rw [eG,Tx.every_succ]
 generalize Tx.gCol (Tx.colonAt rs) k (Tx.grp (Tx.wordB rs) (Tx.colonAt rs) k)=G at h hG ⊢
 have hW:=Tx.wordB_is U Y.nb
 have O:ev (T pp (n+1)).toCx (.call (.glob "_law_first_word") (.cons (.idx (.var "rows") (.var "k")) .nil)) Z=.ok (.str (tx (Tx.fword l))) Z:=by
  obtain ⟨Z',e1,e2⟩:=qVq (pp:=pp) (n:=n) (H:=Z.toHp) Y.low Y.len
  have:=xZ (cx:=(T pp (n+1)).toCx) (as:=.cons (.idx (.var "rows") (.var "k")) .nil) (qZ (x:="_law_first_word") (by rw [bT.gl]; rfl)) (qJ (qXo h hk U hn) rfl) e1
  rw [e2] at this
  exact this
 have u:=xG (op:=.In) O (b:=.list (.cons (.str "def") (.cons (.str "else") (.cons (.str "try") (.cons (.str "return") (.cons (.str "\x69mport") (.cons (.str "class") .nil))))))) (y:=.list (sixS.map .str)) (xO rfl (by decide)) zNp
 rw [← hW] at u
 unfold qVr Tx.gWord
 refine qY (qT u rfl (λ q=>?_) λ q=>?_)
 ·rw [c7 q]
  have hE:=Tx.every_len (W:=Tx.wordB rs) (k:=k)
  obtain ⟨Z',e,h',L⟩:=zRx (pp:=pp) (n:=n+1) h (by exact m_e8 hn B hE) hk
  refine xI e ?_
  rw [← L] at hk
  generalize Tx.everyW (Tx.wordB rs) k++[k]=E at h' ⊢
  clear e u O h L
  obtain ⟨js,g1,g2,g3,g4⟩:=h'.gr
  have X:=xG (qB (cx:=(T pp (n+1)).toCx) h'.groups) (xO (cx:=(T pp (n+1)).toCx) (Z:=Z') (es:=.nil) rfl (by decide)) (qHx g1 λ v hv=>by
   obtain ⟨j,hj,rfl⟩:=List.mem_map.mp hv
   obtain ⟨g,_,hg⟩:=g2.at_ j hj
   exact qQx hg)
  have a3:(js.map V.ref).isEmpty=G.isEmpty:=by
   have:=g2.len
   cases js <;> cases G <;> first | rfl | cases this
  rw [a3] at X
  unfold zKh
  refine qY (qT X rfl (λ q2=>?_) λ q2=>?_)
  ·have J:G≠[]:=by rintro rfl; exact zF1 q2
   rw [c7 ⟨q,J⟩]
   obtain ⟨σ2,e2,h2,_⟩:=zRw (pp:=pp) (n:=n+1) h' J hG.2 hk
   exact xI e2 (gd_nil (gd_nil (gd_nil ⟨rfl,h2⟩)))
  ·have J:G=[]:=by cases G with
    | nil=>rfl
    | cons=>cases q2
   rw [d0 (λ z=>z.2 J)]
   exact gd_nil (gd_nil (gd_nil ⟨rfl,h'⟩))
 ·rw [d0 (by rw [q]; decide),d0 (λ z=>by rw [q] at z; cases z.1),cN]
  exact gd_nil (gd_nil ⟨rfl,h⟩)
end
noncomputable def qTc (o:Option Nat):V:=o.elim .none λ r=>.int (r:Nat)
theorem range_ok:∀ m < 201,Builtin.Range.small 0 (m:Nat) 1=true/\(m8 0 (m:Nat) 1).toNat=m:=by decide +kernel
section
variable {pp:bA} {n:Nat} {H:Hp} {Z:St} {rs G:List (Ln)} {nid k:Nat} {E F N l:Ln} {d r lv:Nat} {fs:xE} {ls:List (Ln)} {iw tw:Int}
theorem qQf {m:Nat} (h:m<=200):zV H (.rng 0 (m:Nat) 1)=some ((m4 0 m).map λ (i:Nat)=>.int (i:Int)):=by
 show some ((lT (m8 0 (m:Nat) 1).toNat).map λ (i:Nat)=>V.int (0+(i:Int) * 1))=_
 rw [(range_ok m (by exact m2 h)).2,lD]
 congr 2
 funext i
 rw [Int.mul_one,Int.zero_add]
theorem uV {α:Type} {P:α->Bool}:∀ l:List α,l.filterMap (λ y=>if P y=true then some y else none)=l.filter P
 | []=>rfl
 | a::l=>by
  rw [lI,List.filter_cons,uV l]
  cases P a <;> rfl
theorem qCm {cx:Cx} (hc:cx.calm=false) {it cond:X} {x:Str} {u:V} {xs:List V} (P:V->Bool) (hi:ev cx it Z=.ok u Z) (hx:zV Z.toHp u=some xs)
  (hg:∀ y∈xs,ev cx cond ⟨Z.toHp,[(x,y)],Z.cel,none⟩=.ok (.bool (P y)) ⟨Z.toHp,[(x,y)],Z.cel,none⟩) (hn:xs.length<=1000) :
  ev cx (.comp (.var x) x it cond) Z=.ok (.list (xs.filter P)) Z:=by
 have h:=qVx hc (elt:=.var x) (cond:=cond) (λ y=>if P y=true then some y else none) hi hx (λ y hy=>by
  rw [hg y hy]
  show qBc (.bool (P y)) _ _=_
  cases P y with
  | false=>rfl
  | true =>
   show (ev cx (.var x) ⟨Z.toHp,[(x,y)],Z.cel,none⟩).bind _=_
   rw [qB (v:=y) (by show i8 x [(x,y)]=_; rw [i8,iQ])]; rfl) (d5 (List.length_filterMap_le ..) (d5 hn (by decide)))
 rw [uV] at h
 exact h
noncomputable def kM (N:Ln) (k:Nat):Bool:=N[k]? == some 2
def zQf (N:Ln) (v:V):Bool:=(qU v).elim false λ i=>!kM N i.toNat
theorem qLc:(natsV E).filter (zQf N)=natsV (E.filter λ k=>!kM N k):=by
 unfold natsV
 rw [List.filter_map]
 rfl
def qQy (o:Option O):Ln:=(asO o).elim [] λ xs=>xs.filterMap λ v=>(qU v).map Int.toNat
theorem qLn:qQy (some (.list (natsV l)))=l:=by
 show (natsV l).filterMap _=_
 unfold natsV
 rw [List.filterMap_map]
 induction l with
 | nil=>rfl
 | cons a l u=>rw [lI]; show a::_=_; rw [u]
def qYb (F:Ln) (H:Hp):V->Bool
 | .ref j=>Tx.opens F (qQy (H.obj j))
 | _=>false
theorem zCd:∀ {js:Ln} {gs:List (Ln)},Gr H js gs->(js.map V.ref).any (qYb F H)=gs.any (Tx.opens F)
 | [],[],_=>rfl
 | j::js,g::gs,h=>by
  rw [v4,pD,pD,zCd h.2]
  show (Tx.opens F (qQy (H.obj j)) || _)=_
  rw [h.1,qLn]
theorem uU {α:Type} {P:α->Bool}:∀ l:List α,(l.filter P).isEmpty = !l.any P
 | []=>rfl
 | a::l=>by
  rw [List.filter_cons,pD]
  cases P a with
  | true=>rfl
  | false=>exact uU l
theorem end_run (h:Gs rs H nid E G Z) (hE:∀ i∈E,i < N.length) (Y:E.length<=1000) (ai:G.length<=1000) (hN:H.obj nid=some (.list (natsV N))) (ag:N.length<=1000) (a5:nid < H.nxt) (a9:∀ g∈G,g.length<=1000) :
  Gd (ex (.seq (.asgC "free" zAd) (.seq (.ite (.cmp .NotEq qOg (.list .nil)) (.seq (.ret (.idx (.cv "free") (.neg (.int 1)))) .nil) .nil)
 (.seq (.ite (.and (.cmp .NotEq (.var "every") (.list .nil)) (.cmp .In (.idx (.var "every") (.int 0)) (.cv "free"))) (.seq (.ret (.idx (.var "every") (.int 0))) .nil) .nil) (.seq (.ret .none) .nil)))) (T pp n) Z) λ f Z' =>
  f=.ret (qTc (if (G.drop (G.length - 5)).any (Tx.opens (E.filter λ k=>!kM N k))=true then (E.filter λ k=>!kM N k).getLast? else if Tx.opens (E.filter λ k=>!kM N k) E=true then E.head? else none))/\Same H Z'.toHp:=by
 have a1:∀ l:List (Str×V),ev (T pp n).toCx (.cv "notes") ⟨Z.toHp,l,Z.cel,none⟩=.ok (.ref nid) ⟨Z.toHp,l,Z.cel,none⟩:=λ l=>qBi (Z:=⟨Z.toHp,l,Z.cel,none⟩) (by rw [show (St.mk Z.toHp l Z.cel none).cel=Z.cel from rfl,h.cel]; rfl) h.nts
 have u:=qCm (qBf (pp:=pp) n) (x:="k") (cond:=.cmp .NotEq (.idx (.cv "notes") (.var "k")) (.int 2)) (zQf N) (qB (cx:=(T pp n).toCx) h.every) (show asO (Z.obj (H.nxt+2))=some (natsV E) by rw [h.ev]; rfl) (λ y hy=>by
  refine bC λ B=>?_
  obtain ⟨i,hi,rfl⟩:=List.mem_map.mp hy
  refine B ?_
  have ab:=hE i hi
  have hv:N[i]? = some N[i]:=n3 ab
  have e:=xF (a1 [("k", .int (i:Nat))]) (qB (x:="k") rfl) (wE (a:=.ref nid) (i:=i) (v:=N[i]) rfl (show asO (Z.obj nid)=some (natsV N) by rw [h.old nid a5,hN]; rfl) (by lia) hv)
  have e2:=qJm e (show ev (T pp n).toCx (.int 2) _=.ok (.int ((2:Nat):Int)) _ from rfl)
  rw [e2]
  congr 2
  show _=(!kM N i)
  unfold kM
  rw [hv]
  refine g8 (!·) ?_
  rw [vH]
  exact Bool.eq_iff_iff.mpr (by rw [j4,j8,dF])) (by rw [kU]; exact Y)
 rw [qLc] at u
 have hF:∀ i∈E.filter (λ k=>!kM N k),i∈E:=λ i hi=>(List.mem_filter.mp hi).1
 have a6:(E.filter λ k=>!kM N k).length<=1000:=d5 (iL ..) Y
 generalize E.filter (λ k=>!kM N k)=F at u hF a6 ⊢
 have J:Z.cel.lookup ("free" : Str)=some (H.nxt+1):=by rw [h.cel]; rfl
 refine qD (qCh (e:=zAd) u (yZ J h.fre) ?_)
 refine bC λ B=>?_
 obtain ⟨js,g1,g2,g3,g4⟩:=h.gr
 refine B ?_
 have f1:({ Z with toHp:=hput Z.toHp (H.nxt+1) (.cell (some (.list (natsV F)))) }:St).loc.lookup ("every" : Str)=some (.ref (H.nxt+2)):=h.every
 have f2:({ Z with toHp:=hput Z.toHp (H.nxt+1) (.cell (some (.list (natsV F)))) }:St).loc.lookup ("groups" : Str)=some (.ref (H.nxt+3)):=h.groups
 have f3:({ Z with toHp:=hput Z.toHp (H.nxt+1) (.cell (some (.list (natsV F)))) }:St).cel.lookup ("free" : Str)=some (H.nxt+1):=J
 have f4:({ Z with toHp:=hput Z.toHp (H.nxt+1) (.cell (some (.list (natsV F)))) }:St).obj (H.nxt+1)=some (.cell (some (.list (natsV F)))):=xW
 have f5:({ Z with toHp:=hput Z.toHp (H.nxt+1) (.cell (some (.list (natsV F)))) }:St).obj (H.nxt+2)=some (.list (natsV E)):=(qH (by exact n_e0)).trans h.ev
 have f6:({ Z with toHp:=hput Z.toHp (H.nxt+1) (.cell (some (.list (natsV F)))) }:St).obj (H.nxt+3)=some (.list (js.map .ref)):=(qH (by simp)).trans g1
 have f7:Gr ({ Z with toHp:=hput Z.toHp (H.nxt+1) (.cell (some (.list (natsV F)))) }:St).toHp js G:=g2.same λ j hj=>qH (by have:=(g4 j hj).1; lia)
 have U:Same H ({ Z with toHp:=hput Z.toHp (H.nxt+1) (.cell (some (.list (natsV F)))) }:St).toHp:=⟨d5 (n4 _ 4) h.nx,λ i hi=>(qH (by exact r9 (k9 hi))).trans (h.old i hi)⟩
 generalize ({ Z with toHp:=hput Z.toHp (H.nxt+1) (.cell (some (.list (natsV F)))) }:St)=Z at f1 f2 f3 f4 f5 f6 f7 U ⊢
 clear h u a1 g1 g2 J
 have a8:∀ l:List (Str×V),ev (T pp n).toCx (.cv "free") ⟨Z.toHp,l,Z.cel,none⟩=.ok (.list (natsV F)) ⟨Z.toHp,l,Z.cel,none⟩:=λ l=>qBi (Z:=⟨Z.toHp,l,Z.cel,none⟩) f3 f4
 have S:ev (T pp n).toCx (.cv "free") Z=.ok (.list (natsV F)) Z:=qBi f3 f4
 have aa:ev (T pp n).toCx (.slc (.var "groups") (.neg (.int 5)) .none) Z=.ok (.list ((js.drop (js.length - 5)).map .ref)) Z:=by
  refine jR (qB f2) yB (show ev (T pp n).toCx .none Z=.ok .none Z from rfl) ?_
  show (asO (Z.obj (H.nxt+3))).elim Ov.bad (λ xs=>.ok (.list (cut xs (some (-5)) none)))=_
  rw [f6]
  show Ov.ok (.list (cut (js.map V.ref) (some (-5)) none))=_
  rw [zBi,k0,pA]
 have f9:=f7.drop (k:=js.length - 5)
 have a4:=f7.len
 have a3:ev (T pp n).toCx qOg Z=.ok (.list (((js.drop (js.length - 5)).map V.ref).filter (qYb F Z.toHp))) Z:=by
  refine qCm (qBf (pp:=pp) n) (qYb F Z.toHp) aa rfl (λ y hy=>?_) (by rw [k0,u0]; exact n_e1)
  refine bC λ B=>?_
  obtain ⟨j,hj,rfl⟩:=List.mem_map.mp hy
  obtain ⟨g,hg,L⟩:=f9.at_ j hj
  refine B ?_
  have ah:=a9 g (eK hg)
  show _=Rs.ok (V.bool (Tx.opens F (qQy (Z.obj j)))) _
  rw [L,qLn,Tx.opens_eq]
  have c1:=xG (qB (cx:=(T pp n).toCx) (Z:=⟨Z.toHp,[("group", .ref j)],Z.cel,none⟩) (x:="group") rfl) (xO (es:=.nil) rfl (by decide)) (qHx L qLl)
  rw [qAv] at c1
  refine yC c1 λ q=>?_
  cases g with
  | nil=>cases q
  | cons r g =>
   exact xG (xF (qB (x:="group") rfl) (show ev (T pp n).toCx (.int 0) _=.ok (.int ((0:Nat):Int)) _ from rfl) (wE (a:=.ref j) (l:=r::g) (v:=r) rfl (show asO (Z.obj j)=_ by rw [L]; rfl) (by decide) rfl)) (a8 _) qQi
 have X:=xG a3 (xO (cx:=(T pp n).toCx) (Z:=Z) (es:=.nil) rfl (by decide)) (zHh λ v hv=>by
  refine bC λ B=>?_
  obtain ⟨j,hj,rfl⟩:=List.mem_map.mp (List.mem_filter.mp hv).1
  obtain ⟨g,_,L⟩:=f9.at_ j hj
  refine B ?_
  exact qQx L)
 rw [uU,not_not,zCd f9,a4] at X
 refine zW X (λ q=>?_) λ q=>?_
 ·rw [c7 q]
  refine bC λ B=>?_
  obtain ⟨g,_,hg⟩:=List.any_eq_true.mp q
  obtain ⟨a,ha⟩:∃ a,F.getLast? = some a:=by
   cases g with
   | nil=>cases hg
   | cons r g =>
    have hr:r∈F:=List.contains_iff_mem.mp hg
    exact ⟨_,dW (List.ne_nil_of_mem hr)⟩
  refine B ?_
  rw [ha]
  exact qD (kL (xF S yB (qAm (a:=.list (natsV F)) rfl rfl (v:=.int (a:Nat)) (by unfold natsV; rw [List.getLast?_map,ha]; rfl))) ⟨rfl,U⟩)
 rw [d0 (by rw [q]; decide)]
 have c1:=xG (qB (cx:=(T pp n).toCx) f1) (xO (cx:=(T pp n).toCx) (Z:=Z) (es:=.nil) rfl (by decide)) (qHx f5 qLl)
 rw [qAv] at c1
 have O:∀ r E',E=r::E'->ev (T pp n).toCx (.idx (.var "every") (.int 0)) Z=.ok (.int (r:Nat)) Z:=λ r E' e=>xF (qB f1) (show ev (T pp n).toCx (.int 0) _=.ok (.int ((0:Nat):Int)) _ from rfl) (wE (a:=.ref (H.nxt+2)) (l:=E) (v:=r) rfl (show asO (Z.obj _)=_ by rw [f5]; rfl) (by decide) (by rw [e]; rfl))
 have c2:=yC c1 (b:=.cmp .In (.idx (.var "every") (.int 0)) (.cv "free")) (q:=F.contains (E.headD 0)) λ q=>by
  cases D:E with
  | nil=>rw [D] at q; exact zF1 q
  | cons r E'=>exact xG (O r E' D) S qQi
 rw [← Tx.opens_eq] at c2
 refine zW c2 (λ q=>?_) λ q=>?_
 ·rw [c7 q]
  cases D:E with
  | nil=>rw [D] at q; exact zF1 q
  | cons r E'=>exact qD (kL (O r E' D) ⟨rfl,U⟩)
 ·rw [d0 (by rw [q]; decide)]
  exact qD (kL (v:=.none) (a0:=Z) rfl ⟨rfl,U⟩)
theorem qNt (U:∀ l∈rs,RowOk l) (hn:rs.length<=200) (hN:H.obj nid=some (.list (natsV N))) (X:rs.length<=N.length) (Y:N.length<=1000) (S:nid < H.nxt) :
  ∃ Z',(T pp (n+2)).app (.top (.ref 259)) [.list ((rs.map tx).map .str),.ref nid] H=.ok (qTc (Tx.numW (Tx.wordB rs) (Tx.colonAt rs) (kM N) rs.length)) Z'/\Same H Z'.toHp:=by
 have L:Gd (ex qIc (T pp (n+1)) (entryC lnum_sc ((["rows", "notes"]:List Str).zip [.list ((rs.map tx).map .str),.ref nid]) H)) λ f Z'=>f=.ret (qTc (Tx.numW (Tx.wordB rs) (Tx.colonAt rs) (kM N) rs.length))/\Same H Z'.toHp:=by
  have h1:(entryC lnum_sc ((["rows", "notes"]:List Str).zip [.list ((rs.map tx).map .str),.ref nid]) H).loc.lookup ("rows" : Str)=some (.list ((rs.map tx).map .str)):=by rfl
  have h2:(entryC lnum_sc ((["rows", "notes"]:List Str).zip [.list ((rs.map tx).map .str),.ref nid]) H).toHp=(H.add (.cell (some (.ref nid)))).add (.cell none):=by rfl
  have h3:(entryC lnum_sc ((["rows", "notes"]:List Str).zip [.list ((rs.map tx).map .str),.ref nid]) H).cel=[(("free" : Str),H.nxt+1),(("notes" : Str),H.nxt)]:=by rfl
  generalize entryC lnum_sc ((["rows", "notes"]:List Str).zip [.list ((rs.map tx).map .str),.ref nid]) H=Z at h1 h2 h3 ⊢
  have u:Z.nxt=H.nxt+2:=by show Z.toHp.nxt=_; rw [h2]; rfl
  have o1:Z.obj H.nxt=some (.cell (some (.ref nid))):=by
   show Z.toHp.obj _=_
   rw [h2]
   exact (d0 (by show H.nxt≠H.nxt+1; exact r9 (n5 _))).trans (c7 rfl)
  have o2:Z.obj (H.nxt+1)=some (.cell none):=by
   show Z.toHp.obj _=_
   rw [h2]; exact c7 rfl
  have o3:∀ i,i < H.nxt->Z.obj i=H.obj i:=λ i hi=>by
   show Z.toHp.obj _=_
   rw [h2]
   exact (d0 (by show i≠H.nxt+1; exact r9 (k9 hi))).trans (d0 (by exact r9 hi))
  unfold qIc
  refine qD (qOi (xs:=[]) (a0:=Z) (xO rfl (by decide)) ?_)
  refine qD (qOi (xs:=[]) (a0:=(Z.add (.list [])).set "every" (.ref Z.nxt)) (xO rfl (by decide)) ?_)
  have J:Gs rs H nid (Tx.everyW (Tx.wordB rs) 0) (Tx.grp (Tx.wordB rs) (Tx.colonAt rs) 0) ((((Z.add (.list [])).set "every" (.ref Z.nxt)).add (.list [])).set "groups" (.ref ((Z.add (.list [])).set "every" (.ref Z.nxt)).nxt)):=by
   have e2:((Z.add (.list [])).set "every" (.ref Z.nxt)).nxt=H.nxt+3:=by show Z.nxt+1=_; rw [u]
   have low:∀ i,i < H.nxt+2->((((Z.add (.list [])).set "every" (.ref Z.nxt)).add (.list [])).set "groups" (.ref ((Z.add (.list [])).set "every" (.ref Z.nxt)).nxt)).obj i=Z.obj i:=λ i hi =>
    (d0 (by rw [e2]; lia)).trans (d0 (by rw [u]; exact r9 hi))
   refine ⟨zX2 (zX2 h1),zX2 (by rw [u]; exact qC),by rw [e2]; exact qC,h3,(low _ (by simp)).trans o1,(low _ (by simp)).trans o2,?_,⟨[],?_,trivial,oR,λ z h=>(nomatch h)⟩,?_,λ i hi=>(low i (by exact d5 hi (n4 _ 2))).trans (o3 i hi)⟩
   ·exact (d0 (by rw [e2]; exact n_e2)).trans (c7 (by rw [u]))
   ·exact c7 (by rw [e2])
   ·show H.nxt+4<=((Z.add (.list [])).set "every" (.ref Z.nxt)).nxt+1
    rw [e2]; exact d7 _
  generalize (((Z.add (.list [])).set "every" (.ref Z.nxt)).add (.list [])).set "groups" (.ref ((Z.add (.list [])).set "every" (.ref Z.nxt)).nxt)=Z at J ⊢
  have D:ev (T pp (n+1)).toCx (.call (.glob "range") (.cons (.call (.glob "len") (.cons (.var "rows") .nil)) .nil)) Z=.ok (.rng 0 (rs.length:Nat) 1) Z :=
   qHe (qZ (by rw [bT.gl]; rfl)) (qAt (i:=(rs.length:Nat)) (qB J.rows) (by show okH (.int (((rs.map tx).map V.str).length:Nat)) _=_; rw [k0,k0])) (by rw [qPf,qCv,zLo,c7 (range_ok rs.length (by exact m2 hn)).1])
  refine qY (qQo (qBf (pp:=pp) (n+1)) D (qQf hn) (λ l Z=>∃ k,l=(m4 k (rs.length - k)).map (λ (i:Nat)=>V.int (i:Int))/\k<=rs.length/\Gs rs H nid (Tx.everyW (Tx.wordB rs) k) (Tx.grp (Tx.wordB rs) (Tx.colonAt rs) k) Z)
   ⟨0,rfl,m9 _,J⟩ (λ l Z z=>qQf hn) ?_ ?_)
  ·rintro y r Z ⟨k,e,hk,h⟩
   have B:k < rs.length:=by
    refine cC hk λ q=>?_
    rw [q,lR] at e; cases e
   have O:rs.length - k=(rs.length - (k+1))+1:=by exact n_sb B
   rw [O,iW,v4] at e
   obtain ⟨rfl,rfl⟩:=j5 e
   have hl:rs[k]? = some rs[k]:=n3 B
   refine (body_run (pp:=pp) (n:=n) (h.setk (v:=.int (k:Nat))) qC hl (U _ (mZ _)) hn).mono ?_
   rintro f Z' ⟨rfl,h'⟩
   exact ⟨k+1,rfl,B,h'⟩
  ·rintro Z ⟨k,e,hk,h⟩
   have a1:k=rs.length:=by
    refine gF λ q=>?_
    have O:rs.length - k=(rs.length - (k+1))+1:=by exact n_sb (cC hk q)
    rw [O,iW,v4] at e
    cases e
   subst a1
   obtain ⟨b1,b2⟩:=Tx.grp_len (W:=Tx.wordB rs) (C:=Tx.colonAt rs) rs.length
   have hE:=Tx.every_len (W:=Tx.wordB rs) (k:=rs.length)
   exact end_run h (λ i hi=>by
    have:=List.mem_range.mp (List.mem_filter.mp hi).1
    exact d5 this X) (by exact m_f0 hn hE) (by exact m_f0 hn b1) hN Y S λ g hg=>by have:=b2 g hg; exact m_f0 hn this
 obtain ⟨f,Z',e,rfl,w⟩:=L
 exact ⟨Z',qKe (by decide) (by rfl) rfl e rfl,w⟩
theorem qLa (hr:r<=ls.length):Tx.flat ls=Tx.flat (ls.take r)++Tx.flat (ls.drop r):=by rw [← Tx.flat_append,v0]
set_option tactic.hygienic true in
theorem qTu {o:O} (h:H.obj d=some o):hput H d o=H:=by
 unfold hput
 refine g8 (λ o=>Hp.mk o H.nxt) (funext λ j=>?_)
 show (if j=d then some o else H.obj j)=H.obj j
 split
 ·rename_i e; rw [e,h]
 ·rfl
theorem qSn (hr:r<=ls.length) (Y:(Tx.flat ls).length<=900) (J:PO H k d fs) (D:FsP fs iw tw (tx (Tx.flat ls)) lv) :
  ∃ Z',(T pp (n+1)).app (.top (.ref 158)) [.ref k,.int (Tx.stA ls r:Nat)] H=.ok .none Z'/\∃ fs',Z'.toHp=hput H d (.dict fs')/\FsP fs' iw tw (tx (Tx.flat (ls.drop r))) lv:=by
 refine qEo (λ H'=>∃ fs',H'=hput H d (.dict fs')/\FsP fs' iw tw (tx (Tx.flat (ls.drop r))) lv) (by decide) (by rfl) rfl λ Z u h3=>?_
 have S:Z.loc.lookup ("self" : Str)=some (.ref k):=by rw [u]; rfl
 have h2:Z.loc.lookup ("lo" : Str)=some (.int (Tx.stA ls r:Nat)):=by rw [u]; rfl
 subst h3
 have U:ev (T pp n).toCx (.attr (.var "self") "code") Z=.ok (.str (tx (Tx.flat ls))) Z:=yI (qB S) (J.fld bT (by decide) D.code rfl)
 have e1:=vT (qB (cx:=(T pp n).toCx) h2) (show ev (T pp n).toCx (.int 0) Z=.ok (.int 0) Z from rfl)
 have e5:=zJv (qB (cx:=(T pp n).toCx) h2) (show ev (T pp n).toCx (.int 0) Z=.ok (.int 0) Z from rfl)
 have B:=qLa hr
 unfold qHj
 by_cases u:Tx.stA ls r=0
 ·have hd:Tx.flat (ls.drop r)=Tx.flat ls:=by
   have:Tx.flat (ls.take r)=[]:=dU u
   rw [B,this]; rfl
  rw [u] at e1 e5
  refine xA (qVu (p:=true) (q:=true) e1 λ q=>zT1 q) ?_
  rw [show decide (((0:Nat):Int) > 0)=false from rfl] at e5
  exact zW (t:=false) e5 (λ q=>by cases q) λ z=>gd_nil ⟨rfl,fs,(qTu J.dict).symm,by rw [hd]; exact D⟩
 ·have X:(((Tx.stA ls r:Nat):Int) == 0)=false:=by simpa using u
  have V:=Tx.stA_le (ls:=ls) (k:=r)
  have O:(tx (Tx.flat ls)).cps[Tx.stA ls r - 1]? = some 10:=by
   have L:ls.take r≠[]:=λ q=>u (by show (Tx.flat (ls.take r)).length=0; rw [q]; rfl)
   have:=wU L
   show (Tx.flat ls).toArray[Tx.stA ls r - 1]? = _
   rw [iJ,B,t9 (by show _ < Tx.stA ls r; exact Nat.pred_lt u)]
   rw [dK] at this
   exact this
  rw [X] at e1
  refine xA (qVu (q:=true) e1 λ z=>?_) ?_
  ·have hi:=qIk (H:=Z.toHp) (x:=tx (Tx.flat ls)) (i:=((Tx.stA ls r:Nat):Int) - 1) (j:=Tx.stA ls r - 1) (jO (by lia) (by lia)) (by rw [uF (by exact nM u)]; exact qCa (by rw [kW]; exact m0 (Nat.pred_lt u) V)) O
   rw [qCn (xF U (yS (qB h2) rfl) hi) rfl,nlS]; rfl
  ·rw [h8 (by exact m_f1 u:((Tx.stA ls r:Nat):Int) > 0)] at e5
   refine zW e5 (λ z=>?_) (λ q=>zT1 q)
   have e6:ev (T pp n).toCx (.slc (.attr (.var "self") "code") (.var "lo") .none) Z=.ok (.str (tx (Tx.flat (ls.drop r)))) Z:=by
    refine jR U (qB h2) rfl ?_
    rw [qKb]
    show Ov.ok (.str (tx (cut (Tx.flat ls) (some ((Tx.stA ls r:Nat):Int)) none)))=_
    rw [zOf,B]
    show Ov.ok (.str (tx ((Tx.flat (ls.take r)++_).drop (Tx.flat (ls.take r)).length)))=_
    rw [oV]
   refine qD (jN e6 (qB S) (J.setA bT (by decide) D.kx.len) (gd_nil (gd_nil ⟨rfl,_,rfl,?_⟩)))
   exact ⟨(D.kx.set (i:=2) (by decide) (by decide) (by decide +kernel)).less (by decide),(qF (by decide)).trans D.iw,(qF (by decide)).trans D.tw,zZ,(qF (by decide)).trans D.lev⟩
noncomputable def zPr:V->V
 | .str r=>.int ((r.length:Nat)+1)
 | v=>v
theorem qJw:∀ ls:List (Ln),((ls.map tx).map λ r:Str=>((r.length:Nat):Int)+1).sum=((Tx.flat ls).length:Nat)
 | []=>rfl
 | l::ls=>by
  rw [v4,v4,List.sum_cons,qJw ls,Tx.flat_cons,g7,m7,kW]
  simp +arith
theorem zKr (hn:ls.length<=200) (u:Z.loc.lookup ("rows" : Str)=some (.list ((ls.map tx).map .str))) (h2:Z.loc.lookup ("number" : Str)=some (.int (r:Nat))) :
  ev (T pp n).toCx zPa Z=.ok (.int (Tx.stA ls r:Nat)) Z:=by
 have e1:ev (T pp n).toCx (.slc (.var "rows") .none (.var "number")) Z=.ok (.list (((ls.take r).map tx).map .str)) Z:=by
  refine jR (qB u) (show ev (T pp n).toCx .none Z=.ok .none Z from rfl) (qB h2) ?_
  show Ov.ok (.list (cut ((ls.map tx).map V.str) none (some (r:Int))))=_
  rw [qIw,pC,pC]
 have e2:=qHd (qBf (pp:=pp) n) (elt:=.bin .Add (.call (.glob "len") (.cons (.var "row") .nil)) (.int 1)) (x:="row") zPr e1 rfl (λ v hv=>by
  obtain ⟨r,hr,rfl⟩:=List.mem_map.mp hv
  exact zP (qAt (qB rfl) rfl) rfl) (by rw [k0,k0,dS]; exact d5 (d5 (iB _ _) hn) (by decide))
 have e3:(((ls.take r).map tx).map V.str).map zPr=((((ls.take r).map tx).map λ r:Str=>((r.length:Nat):Int)+1)).map .int:=by
  generalize (ls.take r).map tx=q
  rw [hK,hK]; rfl
 rw [e3] at e2
 have e4:=qHe (f:=.glob "sum") (qZ (by rw [bT.gl]; rfl)) e2 (zJi (Z:=Z))
 rw [qJw] at e4
 exact e4
theorem zBk {l:Ln}:pV (tx l) "\n" = ((l.count 10:Nat):Int):=by
 have e:("\n" : Str)=⟨([10]:Ln).toArray⟩:=qYz
 have u:∀ (l:Ln) (i:Nat),(oc [10] i 0 l).length=l.count 10:=by
  intro l
  induction l with
  | nil=>intro i; rfl
  | cons c l B =>
   intro i
   by_cases hc:c=10
   ·subst hc
    have e1:oc [10] i 0 (10::l)=i::oc [10] (i+1) 0 l:=c7 rfl
    rw [e1,m7,B,fE]
   ·have e1:oc [10] i 0 (c::l)=oc [10] (i+1) 0 l:=d0 λ q=>hc (j5 (show [c]=[10] from q)).1
    rw [e1,B,List.count_cons_of_ne hc]
 unfold pV
 rw [e]
 have:=qHw (x:=tx l) (y:=[10]) (by decide)
 rw [this,u]; rfl
def zJx (l N:Ln) (p:Nat) (_:Unit):Bool×Unit:=(kM N ((l.take p).count 10),())
theorem zCx {l:Ln} {p nid c1 c2:Nat} {cs:List (Str×Nat)} (O:cs.lookup ("text" : Str)=some c1) (hn:cs.lookup ("notes" : Str)=some c2) (J:H.obj c1=some (.cell (some (.str (tx l))))) (L:H.obj c2=some (.cell (some (.ref nid))))
  (S:H.obj nid=some (.list (natsV N))) (B:l.count 10 < N.length) (D:N.length<=1000) :
  ev (T pp n).toCx qFo { toHp:=H,loc:=[("place", .int (p:Nat))],cel:=cs }=.ok (.bool (kM N ((l.take p).count 10))) { toHp:=H,loc:=[("place", .int (p:Nat))],cel:=cs }:=by
 have e1:ev (T pp n).toCx (.slc (.cv "text") .none (.var "place")) { toHp:=H,loc:=[("place", .int (p:Nat))],cel:=cs }=.ok (.str (tx (l.take p))) { toHp:=H,loc:=[("place", .int (p:Nat))],cel:=cs }:=by
  refine jR (qBi O J) (show ev (T pp n).toCx .none _=.ok .none _ from rfl) (qB (x:="place") rfl) ?_
  show Ov.ok (.str (tx (cut l none (some ((p:Nat):Int)))))=_
  rw [qIw]
 have e2:ev (T pp n).toCx (.meth (.slc (.cv "text") .none (.var "place")) "count" (.cons (.str "\n") .nil)) { toHp:=H,loc:=[("place", .int (p:Nat))],cel:=cs }=.ok (.int ((l.take p).count 10:Nat)) { toHp:=H,loc:=[("place", .int (p:Nat))],cel:=cs } :=
  xM (Z':={ toHp:=H,loc:=[] }) e1 (jC bT zHn) (qJ rfl rfl) (by
   rw [bT.bl]
   show bapp _ "str.count" [.str (tx (l.take p)),.str "\n"] _=_
   rw [qPb]
   show okH (.int (pV (tx (l.take p)) "\n")) H=_
   rw [zBk]; rfl)
 have u:(l.take p).count 10<=l.count 10:=(lK p l).count_le 10
 have hv:N[(l.take p).count 10]? = some (N[(l.take p).count 10]'(by exact m1 u B)):=n3 _
 have e3:=xF (qBi (cx:=(T pp n).toCx) (Z:={ toHp:=H,loc:=[("place", .int (p:Nat))],cel:=cs }) hn L) e2 (wE (a:=.ref nid) rfl (show asO (H.obj nid)=some (natsV N) by rw [S]; rfl) (by exact m_f2 B D u) hv)
 have e4:=vT e3 (show ev (T pp n).toCx (.int 2) _=.ok (.int ((2:Nat):Int)) _ from rfl)
 rw [vH] at e4
 show ev (T pp n).toCx (.cmp .Eq _ (.int 2)) _=_
 rw [e4]
 congr 2
 unfold kM
 rw [hv]
 exact Bool.eq_iff_iff.mpr (by rw [j4,j8,dF])
theorem zCw {l:Ln} {nid c1 c2:Nat} {cs:List (Str×Nat)} (J:cs.lookup ("text" : Str)=some c1) (hn:cs.lookup ("notes" : Str)=some c2) (B:H.obj c1=some (.cell (some (.str (tx l))))) (D:H.obj c2=some (.cell (some (.ref nid))))
  (O:H.obj nid=some (.list (natsV N))) (L:l.count 10 < N.length) (u:N.length<=1000):Tx.TestOk (T pp (n+1)) (.clo ["place"] qFo cs) (λ q q H'=>H'=H) (zJx l N) :=
 ⟨λ q q q h=>h,λ c p m H' h=>by
  subst h
  refine ⟨H',rfl,λ Z=>?_⟩
  rw [zJj]
  have e:jY ["place"] qFo cs (T pp n).toCx [.int (p:Nat)] H'=.ok (.bool (kM N ((l.take p).count 10))) { toHp:=H',loc:=[("place", .int (p:Nat))],cel:=cs } :=
   (c7 rfl).trans (zCx (pp:=pp) (n:=n) J hn B D O L u)
  rw [e]; rfl⟩
theorem qWf (hL:Tx.Lines ls) (hr:r < ls.length):(zJx (Tx.flat ls) N (Tx.stA ls r) ()).1=kM N r:=by
 show kM N (((Tx.flat ls).take (Tx.stA ls r)).count 10)=_
 rw [qLa (n1 hr)]
 show kM N (((Tx.flat (ls.take r)++_).take (Tx.flat (ls.take r)).length).count 10)=_
 rw [oX,vB (λ l u=>hL l (iZ u)),dS,dT (n1 hr)]
set_option tactic.hygienic true in
theorem zHe {W C bar:Nat->Bool} {m:Nat} (h:Tx.numW W C bar m=some r):r < m/\bar r=false:=by
 unfold Tx.numW at h
 split at h
 ·have:=Tx.mem_free.mp (fX h)
  exact ⟨this.1,this.2.2⟩
 ·split at h
  ·rename_i B
   cases u:Tx.everyW W m with
   | nil=>rw [u] at h; cases h
   | cons a l =>
    rw [u] at h B
    cases h
    have:=Tx.mem_free.mp (List.contains_iff_mem.mp (show (Tx.freeW W bar m).contains r=true from B))
    exact ⟨this.1,this.2.2⟩
  ·exact zN1 h
end
set_option tactic.hygienic true in
theorem zAa {cx:Sx} {Z a0 a7:St} {Q:Fl->St->Prop} {x y:Str} {e:X} {a b:V} (u:ev cx.toCx e Z=.ok (.tup [a,b]) a0) (hs:a0.setC x a=some a7) (h:Q .next (a7.set y b)):Gd (ex (.asg2C x y e) cx Z) Q:=by
 refine ⟨.next,_,?_,h⟩
 rw [qUe,Rs.bind_ok u]
 show kD ((a0.setC x a).map λ a7=>a7.set y b)=_
 rw [hs]; rfl
theorem zJu {cx:Cx} {Z:St} {c a b:X} {t:Bool} {v:V} (hc:ev cx c Z=.ok (.bool t) Z) (ha:t=true->ev cx a Z=.ok v Z) (u:t=false->ev cx b Z=.ok v Z):ev cx (.ite c a b) Z=.ok v Z:=by
 rw [zIk,Rs.bind_ok hc]
 cases t with
 | true=>exact ha rfl
 | false=>exact u rfl
noncomputable def qUy:List (Str×Nat):=[("text", 3),("notes", 2),("first", 1)]
structure Hw (f:Option V) (l N:Ln) (nid:Nat) (H:Hp):Prop where
 o0:H.obj 0=some (.tab lq)
 o1:H.obj 1=some (.cell f)
 o2:H.obj 2=some (.cell (some (.ref nid)))
 o3:H.obj 3=some (.cell (some (.str (tx l))))
 oN:H.obj nid=some (.list (natsV N))
 h4:4<=nid
 hn:nid < H.nxt
theorem Hw.of {f:Option V} {l N:Ln} {nid:Nat} {H H':Hp} (h:Hw f l N nid H) (hx:H.nxt<=H'.nxt) (hs:∀ i,i<=nid->H'.obj i=H.obj i):Hw f l N nid H':=by
 have h4:=h.h4
 exact ⟨(hs 0 (by simp)).trans h.o0,(hs 1 (by exact Nat.one_le_of_lt h4)).trans h.o1,(hs 2 (by exact Nat.le_of_add_left_le h4)).trans h.o2,(hs 3 (by exact n1 h4)).trans h.o3,(hs nid (d7 _)).trans h.oN,h4,m0 h.hn hx⟩
theorem Hw.same {f:Option V} {l N:Ln} {nid:Nat} {H H':Hp} (h:Hw f l N nid H) (hs:Same H H'):Hw f l N nid H':=h.of hs.1 λ i hi=>hs.2 i (m1 hi h.hn)
structure Fw (f:Option V) (l:Ln) (ls:List (Ln)) (R:Ln×Nat) (nid:Nat) (Z:St):Prop where
 hw:Hw f l R.1 nid Z.toHp
 cel:Z.cel=qUy
 tbl:Z.tbl=some (0,lq)
 rows:Z.loc.lookup ("rows" : Str)=some (.list ((ls.map tx).map .str))
 due:Z.loc.lookup ("due" : Str)=some (.int (contF R:Nat))
theorem Fw.set {f:Option V} {l:Ln} {ls:List (Ln)} {R:Ln×Nat} {nid:Nat} {Z:St} (h:Fw f l ls R nid Z) {y:Str} {v:V} (u:(("rows" : Str) == y)=false) (h2:(("due" : Str) == y)=false):Fw f l ls R nid (Z.set y v) :=
 ⟨h.hw,h.cel,h.tbl,qA u h.rows,qA h2 h.due⟩
theorem Fw.heap {f u:Option V} {l:Ln} {ls:List (Ln)} {R:Ln×Nat} {nid:Nat} {Z:St} {H:Hp} (h:Fw f l ls R nid Z) (hw:Hw u l R.1 nid H):Fw u l ls R nid { Z with toHp:=H } :=
 ⟨hw,h.cel,h.tbl,h.rows,h.due⟩
structure Kn (l:Ln) (ls:List (Ln)) (R:Ln×Nat):Prop where
 text:LawT l
 rows:RowsT l ls
 read:rd 1000 l [] [0] 0=some R
 len:R.1.length=ls.length+1
theorem zPt {l:Ln} (h:LawT l):∃ ls R,Kn l ls R:=by
 obtain ⟨ls,hr⟩:=zPb h.last
 have B:=h.len
 obtain ⟨R,u⟩:=qHp 1000 (l:=l) (mode:=[]) (ns:=[0]) (op:=0) .out (.inr h.last) (by lia)
 refine ⟨ls,R,h,hr,u,?_⟩
 have:=(qCc 1000 .out (.inr h.last) u).len
 rw [this,hr.flat,vB hr.lines]
 exact u3 _ _
section
variable {pp:bA} {ns:List Int} {Q:Fl->St->Prop} {Z:St} {l:Ln} {ls:List (Ln)} {R:Ln×Nat} {nid n:Nat} {k d:Nat} {H H':Hp} {fs:xE} {N:Ln} {j:Nat} {o:Option Nat}
theorem slc_list {H:Hp} {xs:List V} {i:Int}:wX H (.list xs) .none (.int i)=.ok (.list (cut xs none (some i))):=rfl
theorem zIs (O:Kn l ls R) (J:Hw none l R.1 nid Z.toHp) (hc:Z.cel=qUy) (Y:Z.tbl=some (0,lq)) (U:Z.loc.lookup ("rows" : Str)=some (.list ((ls.map tx).map .str))) (h2:Z.loc.lookup ("opened" : Str)=some (.int (R.2:Nat))) :
  Gd (ex zOe (T pp n) Z) λ f Z'=>f=.next/\Fw none l ls R nid Z':=by
 have L:0 < ls.length:=List.length_pos_iff.mpr O.rows.ne
 have u:=O.len
 obtain ⟨v,hv⟩:∃ v,R.1.getLast? = some v:=⟨_,dW (λ q=>by rw [q] at u; cases u)⟩
 have S:ev (T pp n).toCx (.cv "notes") Z=.ok (.ref nid) Z:=qBi (by rw [hc]; rfl) J.o2
 have hi:ev (T pp n).toCx (.idx (.cv "notes") (.neg (.int 1))) Z=.ok (.int (v:Nat)) Z:=xF S yB (qAm (a:=.ref nid) rfl (show asO (Z.toHp.obj nid)=some (natsV R.1) by rw [J.oN]; rfl) (by unfold natsV; rw [List.getLast?_map,hv]; rfl))
 have c1:=λ k:Nat=>vT hi (show ev (T pp n).toCx (.int (k:Nat)) Z=.ok (.int ((k:Nat):Int)) Z from rfl)
 have X:ev (T pp n).toCx (.call (.glob "len") (.cons (.var "rows") .nil)) Z=.ok (.int (ls.length:Nat)) Z:=qAt (qB U) (by show okH (.int (((ls.map tx).map V.str).length:Nat)) _=_; rw [k0,k0])
 have D:∀ {i:Int},i=(contF R:Nat)->Fw none l ls R nid (Z.set "due" (.int i)):=λ e=>by
  subst e
  exact ⟨J,hc,Y,zX2 U,qC⟩
 unfold zOe
 refine qT (c1 2) rfl (λ q=>?_) λ q=>?_
 ·have e2:v=2:=by have:=eF q; lia
  have B:contF R=if R.2+2=R.1.length then 2 else 3:=by unfold contF; rw [hv,e2,c7 rfl]
  have c2:=vT (qB (cx:=(T pp n).toCx) h2) (yS X (show ev (T pp n).toCx (.int 1) Z=.ok (.int 1) Z from rfl))
  rw [uF L,vH] at c2
  refine qE (v:=.int (contF R:Nat)) (zJu c2 (λ q=>?_) λ q=>?_) (gd_nil ⟨rfl,D rfl⟩)
  ·have:=m5 q
   rw [B,c7 (by lia)]; exact qZ (zNu bT)
  ·have:=v8 q
   rw [B,d0 (by lia)]; exact qZ (zNt bT)
 ·have e2:v≠2:=by rintro rfl; exact f8 q (by decide)
  have B:contF R=if v=1 then 1 else 0:=by
   unfold contF
   rw [hv,d0 (λ q=>e2 (j7 q))]
   congr 1
   rw [dF]
  have c2:=c1 1
  rw [vH] at c2
  refine qE (v:=.int (contF R:Nat)) (zJu c2 (λ q=>?_) λ q=>?_) (gd_nil ⟨rfl,D rfl⟩)
  ·rw [B,c7 (m5 q)]; exact qZ (zPv bT)
  ·rw [B,d0 (v8 q)]; exact qZ (zNv bT)
theorem zPj (hn:ns.length<=63) (h:∀ l ls R nid Z,Kn l ls R->Fw none l ls R nid Z->Gd (ex endB (T pp 6) Z) Q):Gd (ex qQb (T pp 6) (start09 ns)) Q:=by
 have s1:(start09 ns).loc.lookup ("script" : Str)=some (.list (ns.map .int)):=by rfl
 have s2:(start09 ns).cel=qUy:=by rfl
 have s3:(start09 ns).tbl=some (0,lq):=by rfl
 have s4:(start09 ns).nxt=4:=by rfl
 have s5:(start09 ns).obj 0=some (.tab lq):=by rfl
 have s6:(start09 ns).obj 1=some (.cell none):=by rfl
 have s7:(start09 ns).obj 2=some (.cell none):=by rfl
 have s8:(start09 ns).obj 3=some (.cell none):=by rfl
 generalize start09 ns=Z at s1 s2 s3 s4 s5 s6 s7 s8 ⊢
 obtain ⟨l,Z',hT,e1,w1⟩:=qWd (pp:=pp) (n:=5) (H:=Z.toHp) hn
 obtain ⟨ls,R,Y⟩:=zPt hT
 have L:=hT.len
 have low:∀ c∈l,c < 128:=λ c hc=>(hT.signs c hc).1
 have U:∀ i,i < 4->Z'.obj i=Z.obj i:=λ i hi=>w1.2 i (by rw [show Z.toHp.nxt=4 from s4]; exact hi)
 have w3:4<=Z'.nxt:=by have:=w1.1; rw [show Z.toHp.nxt=4 from s4] at this; exact this
 unfold qQb
 have c1:=xZ (cx:=(T pp 6).toCx) (as:=.cons (.var "script") .nil) (qZ (x:="_law_text") (by rw [bT.gl]; rfl)) (qJ (qB s1) rfl) e1
 refine qD (qCh c1 (yZ (Z:={ Z with toHp:=Z'.toHp }) (c:=3) (o:=none) (by show Z.cel.lookup _=_; rw [s2]; rfl) ((U 3 (by decide)).trans s8)) ?_)
 have g2:({ Z with toHp:=hput Z'.toHp 3 (.cell (some (.str (tx l)))) }:St).cel=qUy:=s2
 have J:({ Z with toHp:=hput Z'.toHp 3 (.cell (some (.str (tx l)))) }:St).tbl=some (0,lq):=s3
 have O:4<=({ Z with toHp:=hput Z'.toHp 3 (.cell (some (.str (tx l)))) }:St).nxt:=w3
 have X:({ Z with toHp:=hput Z'.toHp 3 (.cell (some (.str (tx l)))) }:St).obj 0=some (.tab lq):=(qH (by decide)).trans ((U 0 (by decide)).trans s5)
 have D:({ Z with toHp:=hput Z'.toHp 3 (.cell (some (.str (tx l)))) }:St).obj 1=some (.cell none):=(qH (by decide)).trans ((U 1 (by decide)).trans s6)
 have S:({ Z with toHp:=hput Z'.toHp 3 (.cell (some (.str (tx l)))) }:St).obj 2=some (.cell none):=(qH (by decide)).trans ((U 2 (by decide)).trans s7)
 have u:({ Z with toHp:=hput Z'.toHp 3 (.cell (some (.str (tx l)))) }:St).obj 3=some (.cell (some (.str (tx l)))):=xW
 show Gd (ex _ (T pp 6) { Z with toHp:=hput Z'.toHp 3 (.cell (some (.str (tx l)))) }) Q
 generalize ({ Z with toHp:=hput Z'.toHp 3 (.cell (some (.str (tx l)))) }:St)=Z at g2 J O X D S u ⊢
 clear s1 s2 s3 s4 s5 s6 s7 s8 c1 e1 w1 U w3
 have a0:∀ {Z:St},Z.cel=qUy->Z.obj 3=some (.cell (some (.str (tx l))))->ev (T pp 6).toCx (.cv "text") Z=.ok (.str (tx l)) Z:=λ a b=>qBi (c:=3) (by rw [a]; rfl) b
 have c2:ev (T pp 6).toCx (.meth (.cv "text") "split" (.cons (.str "\n") .nil)) Z=.ok (.list (((ls++[[]]).map tx).map .str)) Z :=
  xM (Z':={ toHp:=Z.toHp,loc:=[] }) (a0 g2 u) (jC bT zHl) (qJ rfl rfl) (by
   rw [bT.bl]
   show bapp _ "str.split" [.str (tx l),.str "\n"] _=_
   rw [qPa,qMn Y.rows low (by exact d5 L (by decide))]; rfl)
 have a2:cut (((ls++[[]]).map tx).map V.str) none (some (-1))=(ls.map tx).map V.str:=by
  rw [eH,eH]; exact zIu
 refine qE (v:=.list ((ls.map tx).map .str)) (jR c2 (show ev (T pp 6).toCx .none Z=.ok .none Z from rfl) yB (slc_list.trans (g8 (λ z=>Ov.ok (V.list z)) a2))) ?_
 have g1:=@qC Z "rows" (.list ((ls.map tx).map .str))
 replace g2:(Z.set "rows" (.list ((ls.map tx).map .str))).cel=qUy:=g2
 replace J:(Z.set "rows" (.list ((ls.map tx).map .str))).tbl=some (0,lq):=J
 replace O:4<=(Z.set "rows" (.list ((ls.map tx).map .str))).nxt:=O
 replace X:(Z.set "rows" (.list ((ls.map tx).map .str))).obj 0=_:=X
 replace D:(Z.set "rows" (.list ((ls.map tx).map .str))).obj 1=_:=D
 replace S:(Z.set "rows" (.list ((ls.map tx).map .str))).obj 2=_:=S
 replace u:(Z.set "rows" (.list ((ls.map tx).map .str))).obj 3=_:=u
 generalize Z.set "rows" (.list ((ls.map tx).map .str))=Z at g1 g2 J O X D S u ⊢
 obtain ⟨Z',e1,e2⟩:=qXt (pp:=pp) (n:=5) (H:=Z.toHp) (by exact d5 L (by decide)) low Y.read
 have c3:=xZ (cx:=(T pp 6).toCx) (as:=.cons (.cv "text") .nil) (qZ (x:="_law_read") (by rw [bT.gl]; rfl)) (qJ (a0 g2 u) rfl) e1
 rw [e2] at c3
 have B:∀ i,i < 4->(Z.toHp.add (.list (natsV R.1))).obj i=Z.obj i:=λ i hi=>d0 (by show i≠Z.nxt; lia)
 refine qD (zAa c3 (yZ (Z:={ Z with toHp:=Z.toHp.add (.list (natsV R.1)) }) (c:=2) (o:=none) (by show Z.cel.lookup _=_; rw [g2]; rfl) ((B 2 (by decide)).trans S)) ?_)
 have hH:Hw none l R.1 Z.nxt (hput (Z.toHp.add (.list (natsV R.1))) 2 (.cell (some (.ref Z.nxt)))) :=
  ⟨(qH (by decide)).trans ((B 0 (by decide)).trans X),(qH (by decide)).trans ((B 1 (by decide)).trans D),xW,(qH (by decide)).trans ((B 3 (by decide)).trans u),(qH (by lia)).trans (c7 rfl),O,n5 _⟩
 refine qY ((zIs (Z:=({ Z with toHp:=hput (Z.toHp.add (.list (natsV R.1))) 2 (.cell (some (.ref Z.nxt))) }:St).set "opened" (.int (R.2:Nat))) Y hH g2 J (zX2 g1) qC).mono ?_)
 rintro f Z' ⟨rfl,hF⟩
 exact h l ls R _ Z' Y hF
theorem PO.same (h:PO H k d fs) (hk:k < H.nxt) (hd:d < H.nxt) (hs:Same H H'):PO H' k d fs:=⟨(hs.2 k hk).trans h.inst,(hs.2 d hd).trans h.dict,h.ne⟩
structure Gb (l:Ln) (ls:List (Ln)) (R:Ln×Nat) (nid:Nat) (o:Option Nat) (k d:Nat) (fs:xE) (Z:St):Prop where
 fw:Fw none l ls R nid Z
 found:Z.loc.lookup ("found" : Str)=some (Tx.rowV ls o)
 number:Z.loc.lookup ("number" : Str)=some (qTc o)
 parser:Z.loc.lookup ("parser" : Str)=some (.ref k)
 po:PO Z.toHp k d fs
 fsp:FsP fs 4 8 (tx l) 0
 nd:nid < d
 nk:nid < k
 k:k < Z.nxt
 d:d < Z.nxt
 row:∀ r,o=some r->r < ls.length/\kM R.1 r=false
theorem Kn.rowOk (u:Kn l ls R):∀ r∈ls,RowOk r:=λ r hr=>by
 obtain ⟨D,B⟩:=u.rows.mem hr
 obtain ⟨i,hi,rfl⟩:=List.getElem_of_mem hr
 have J:=u.text.len
 exact ⟨Tx.nb_row (n3 hi) (by rw [← u.rows.flat]; exact u.text.nb),λ c hc=>(u.text.signs c (B c hc)).1,by lia⟩
theorem zPi (D:Kn l ls R) (u:Fw none l ls R nid Z) (h:∀ o k d fs Z,Gb l ls R nid o k d fs Z->Gd (ex (.seq zCa qUg) (T pp 6) Z) Q):Gd (ex endB (T pp 6) Z) Q:=by
 have B:=D.text.len
 have O:=D.rows.le
 have L:=D.len
 have hn:=u.hw.hn
 unfold endB
 obtain ⟨J,a1,a2,a3,a4⟩:=qYt (pp:=pp) (n:=4) (H:=Z.toHp) (iw:=4) (tw:=8)
 have c1:=xZ (cx:=(T pp 6).toCx) (Z:=Z) (as:=.cons (.int 4) (.cons (.int 8) .nil)) (qZ (x:="Parser") (by rw [bT.gl]; rfl)) (qJ rfl (qJ rfl rfl)) a1
 refine qE c1 ?_
 replace u:=(u.heap (H:=J.toHp) (u.hw.of (by rw [show J.toHp.nxt=_ from a3]; exact n4 _ 2) λ i hi=>a4 i (m1 hi hn))).set (y:="parser") (v:=.ref (Z.toHp.nxt+1)) (by decide) (by decide)
 have f1:=@qC { Z with toHp:=J.toHp } "parser" (.ref (Z.toHp.nxt+1))
 have S:PO (({ Z with toHp:=J.toHp }:St).set "parser" (.ref (Z.toHp.nxt+1))).toHp (Z.toHp.nxt+1) Z.toHp.nxt (fs2 4 8):=a2
 have f3:(({ Z with toHp:=J.toHp }:St).set "parser" (.ref (Z.toHp.nxt+1))).nxt=Z.toHp.nxt+2:=a3
 generalize ({ Z with toHp:=J.toHp }:St).set "parser" (.ref (Z.toHp.nxt+1))=τ at u f1 S f3 ⊢
 generalize Z.toHp.nxt=d at hn f1 S f3
 clear c1 a1 a2 a3 a4
 have ab:∀ {τ:St},Fw none l ls R nid τ->ev (T pp 6).toCx (.cv "text") τ=.ok (.str (tx l)) τ:=λ h=>qBi (c:=3) (by rw [h.cel]; rfl) h.hw.o3
 obtain ⟨σ2,b1,b2⟩:=qKd (pp:=pp) (n:=5) (x:=tx l) (by rw [kW]; exact d5 B (by decide)) (.inr (List.getLast?_eq_some_iff.mp D.text.last)) S zAb
 refine xI (xM (qB f1) (S.get bT ((zAb (iw:=4) (tw:=8)).kx.meth (by decide)) (by rfl)) (qJ (ab u) rfl) b1) ?_
 rw [b2]
 replace u:=u.heap (H:=hput τ.toHp d (.dict (setF "study_level" (.int 0) (setF "code" (.str (tx l)) (fs2 4 8))))) (u.hw.of (d7 _) λ i hi=>qH (by exact m_f3 hn hi))
 have f4:PO ({ τ with toHp:=hput τ.toHp d (.dict (setF "study_level" (.int 0) (setF "code" (.str (tx l)) (fs2 4 8)))) }:St).toHp (d+1) d _:=S.put
 have f5:=(zAb (iw:=4) (tw:=8)).set (tx l)
 replace f1:({ τ with toHp:=hput τ.toHp d (.dict (setF "study_level" (.int 0) (setF "code" (.str (tx l)) (fs2 4 8)))) }:St).loc.lookup ("parser" : Str)=some (.ref (d+1)):=f1
 replace f3:({ τ with toHp:=hput τ.toHp d (.dict (setF "study_level" (.int 0) (setF "code" (.str (tx l)) (fs2 4 8)))) }:St).nxt=d+2:=f3
 generalize ({ τ with toHp:=hput τ.toHp d (.dict (setF "study_level" (.int 0) (setF "code" (.str (tx l)) (fs2 4 8)))) }:St)=Z at u f1 f3 f4 ⊢
 generalize setF "study_level" (.int 0) (setF "code" (.str (tx l)) (fs2 4 8))=fs at f4 f5
 clear b1 b2 S
 have a8:l.count 10 < R.1.length:=by rw [D.rows.flat,vB D.rows.lines,L]; exact n5 _
 have Y:=zCw (pp:=pp) (n:=4) (H:=Z.toHp) (l:=l) (N:=R.1) (cs:=Z.cel) (c1:=3) (c2:=2) (by rw [u.cel]; rfl) (by rw [u.cel]; rfl) u.hw.o3 u.hw.o2 u.hw.oN a8 (by exact m_f4 B O L)
 obtain ⟨σ3,d1,d2⟩:=zAg (pp:=pp) (n:=5) (m:=()) (ls:=ls) Y D.rows.lines (by rw [← D.rows.flat]; exact d5 (by exact d5 B (by decide):l.length<=1000) (by decide)) (by exact m_f5 B O) f4 (by rw [f5.code,D.rows.flat]; rfl) rfl
 have U:ev (T pp 6).toCx (.lam ["place"] qFo) Z=.ok (.clo ["place"] qFo Z.cel) Z:=by
  rw [zIj]
  unfold qOa
  rw [u.tbl]
  dsimp only
  rw [show Z.obj 0=_ from u.hw.o0]
  exact c7 rfl
 have c3:=xM (qB (cx:=(T pp 6).toCx) f1) (f4.get bT (f5.kx.meth (by decide)) (m:="find_good_parse_start") (a:=151) (by rfl)) (qJ U (show ev (T pp 6).toCx .nil Z=.ok (.list []) Z from rfl)) d1
 rw [d2,Tx.find_number (bar:=kM R.1) λ r hr=>(by rw [D.rows.flat]; exact qWf D.rows.lines hr)] at c3
 refine qE c3 ?_
 have X:∀ r,Tx.numW (Tx.wordB ls) (Tx.colonAt ls) (kM R.1) ls.length=some r->r < ls.length/\kM R.1 r=false:=λ r h=>zHe h
 obtain ⟨V,e1,e2⟩:=qNt (pp:=pp) (n:=4) (H:=Z.toHp) (rs:=ls) (nid:=nid) (N:=R.1) D.rowOk (by exact m_f6 B O) u.hw.oN (by simp [L]) (by exact m_f4 B O L) u.hw.hn
 generalize Tx.numW (Tx.wordB ls) (Tx.colonAt ls) (kM R.1) ls.length=o at X e1 ⊢
 replace u:=u.set (y:="found") (v:=Tx.rowV ls o) (by decide) (by decide)
 replace f1:=@qA Z "found" "parser" (Tx.rowV ls o) _ (by decide) f1
 have f6:=@qC Z "found" (Tx.rowV ls o)
 replace f3:(Z.set "found" (Tx.rowV ls o)).nxt=d+2:=f3
 replace f4:PO (Z.set "found" (Tx.rowV ls o)).toHp (d+1) d fs:=f4
 replace e1:(T pp 6).app (.top (.ref 259)) [.list ((ls.map tx).map .str),.ref nid] (Z.set "found" (Tx.rowV ls o)).toHp=_:=e1
 replace e2:Same (Z.set "found" (Tx.rowV ls o)).toHp V.toHp:=e2
 show Gd (ex _ (T pp 6) (Z.set "found" (Tx.rowV ls o))) Q
 generalize Z.set "found" (Tx.rowV ls o)=Z at u f1 f3 f4 f6 e1 e2 ⊢
 clear c3 d1 d2 Y U
 have a9:ev (T pp 6).toCx (.cv "notes") Z=.ok (.ref nid) Z:=qBi (c:=2) (by rw [u.cel]; rfl) u.hw.o2
 have c4:=xZ (cx:=(T pp 6).toCx) (as:=.cons (.var "rows") (.cons (.cv "notes") .nil)) (qZ (x:="_law_number") (by rw [bT.gl]; rfl)) (qJ (qB u.rows) (qJ a9 rfl)) e1
 refine qE c4 (h o (d+1) d fs _ ⟨(u.heap (u.hw.same e2)).set (by decide) (by decide),zX2 f6,qC,zX2 f1,f4.same (by show d+1 < Z.nxt; lia -abstractProof) (by show d < Z.nxt; lia -abstractProof) e2,f5,hn,by lia -abstractProof,?_,?_,X⟩)
 ·have:=e2.1
  show d+1 < V.toHp.nxt
  rw [show Z.toHp.nxt=d+2 from f3] at this; exact this
 ·have:=e2.1
  show d < V.toHp.nxt
  rw [show Z.toHp.nxt=d+2 from f3] at this; lia -abstractProof
theorem qYa {cx:Cx} {a:X} {i:Int} (ha:ev cx a Z=.ok (.int i) Z):ev cx (.or a (.int 0)) Z=.ok (.int i) Z:=by
 rw [qOk,Rs.bind_ok ha]
 by_cases h:i=0
 ·subst h; rfl
 ·show (match some (i != 0) with | some true=>Rs.ok (V.int i) Z | some false=>_ | none=>.bad)=_
  rw [show (i != 0)=true from bne_iff_ne.mpr h]
theorem qPt {cx:Cx} {a:X} (ha:ev cx a Z=.ok .none Z):ev cx (.or a (.int 0)) Z=.ok (.int 0) Z:=by
 rw [qOk,Rs.bind_ok ha]; rfl
theorem zRf {a b:Nat} (h:a<=b):zV H (.rng (a:Nat) (b:Nat) 1)=some ((m4 a (b - a)).map λ (i:Nat)=>.int (i:Int)):=by
 have e:(m8 (a:Nat) (b:Nat) 1).toNat=b - a:=by
  rw [rangeSize_one]
  split <;> lia
 show some ((lT (m8 (a:Nat) (b:Nat) 1).toNat).map λ (i:Nat)=>V.int ((a:Int)+(i:Int) * 1))=_
 rw [e,List.range'_eq_map_range,hK]
 congr 2
 funext i
 show V.int ((a:Int)+(i:Int) * 1)=V.int ((a+i:Nat):Int)
 rw [Int.mul_one,Int.natCast_add]
theorem zKx {a b:Nat} (ha:a<=1000) (u:b<=1000):Builtin.Range.small (a:Nat) (b:Nat) 1=true :=
 small_one (by lia -abstractProof) (by lia -abstractProof) (by lia -abstractProof) (by lia -abstractProof)
def zJt (N:Ln) (v:V):Bool:=(qU v).elim false λ i=>N[i.toNat]? == some 0
theorem qRi {E:Ln}:(natsV E).filter (zJt N)=natsV (E.filter λ j=>N[j]? == some 0):=by
 unfold natsV
 rw [List.filter_map]
 rfl
noncomputable def zKb (a:Nat):V->V
 | .int i=>.int ((a:Int)+i)
 | v=>v
theorem qTa {a:Nat} {E:Ln}:(natsV E).map (zKb a)=natsV (E.map (a + ·)):=by
 unfold natsV
 rw [hK,hK]
 congr 1
theorem qHb {cx:Cx} {a b:X} {xs u:Ln} (ha:ev cx a Z=.ok (.list (natsV xs)) Z) (B:ev cx b Z=.ok (.list (natsV u)) Z) (h:xs.length+u.length<=1000):ev cx (.bin .Add a b) Z=.ok (.list (natsV (xs++u))) Z:=by
 refine yU ha B ?_
 show (if (natsV xs).length+(natsV u).length<=g0 then Ov.ok (.list (natsV xs++natsV u)) else .bad)=_
 rw [kU,kU,c7 (d5 h (by decide)),qAj]
theorem zIp {a:Ln}:vG H .Eq (.list (natsV a)) (.list (natsV a))=.ok (.bool true):=by
 have hd:dat H 8 (.list (natsV a))=some (.list (a.map λ (i:Nat)=>gS (i:Int))):=by
  show ((natsV a).mapM (dat H 7)).map gZ=_
  rw [qEd]; rfl
 show qGt ((dat H 8 (.list (natsV a))).bind λ x=>(dat H 8 (.list (natsV a))).map λ y=>v7 x y)=_
 rw [hd]
 show Ov.ok (.bool (v7 (.list _) (.list _)))=_
 have:∀ l:Ln,iU (l.map λ (i:Nat)=>gS (i:Int)) (l.map λ (i:Nat)=>gS (i:Int))=true:=by
  intro l
  induction l with
  | nil=>rw [List.map_nil,iU]
  | cons a l u=>rw [v4,iU,u,v7,iQ]; rfl
 rw [v7,this]
theorem qTy {m:Nat} (h:k < m):(yG N m k).map (k + ·)=[k]++zO N m k++[m]:=by
 unfold yG
 rw [v4,eH,hK]
 have e:(zO N m k).map ((k + ·) ∘ (· - k))=zO N m k:=by
  conv=>rhs; rw [← List.map_id (zO N m k)]
  refine List.map_congr_left λ j hj=>?_
  have:=List.mem_range'_1.mp (List.mem_filter.mp hj).1
  show k+(j - k)=j
  exact n_e3 this
 rw [e]
 show (k+0)::(zO N m k++[k+(m - k)])=_
 rw [iA,dX (n1 h)]; rfl
theorem qVc {m:Nat}:(zO N m k).length<=m:=by
 unfold zO
 exact d5 (iL ..) (by rw [List.length_range']; exact lO _ (_+1))
theorem zJg {Q:Fl->St->Prop} (u:Gb l ls R nid o k d fs Z) (D:ls.length<=200) (h:Gd (ex qUg (T pp n) Z) Q):Gd (ex (.seq zCa qUg) (T pp n) Z) Q:=by
 unfold zCa
 have B:=u.found
 have hn:=u.number
 cases o with
 | none =>
  refine qY (qT (t:=true) (xG (qB hn) (show ev (T pp n).toCx .none Z=.ok .none Z from rfl) Tx.cIsNN) rfl (λ z=>?_) λ q=>zT1 q)
  exact zW (t:=false) (xG (qB B) (show ev (T pp n).toCx .none Z=.ok .none Z from rfl) rfl) (λ q=>by cases q) λ z=>gd_nil h
 | some r =>
  refine qY (qT (t:=false) (xG (qB hn) (show ev (T pp n).toCx .none Z=.ok .none Z from rfl) Tx.cIsNI) rfl (λ q=>zF1 q) λ z=>?_)
  have e:=qJm (qB (cx:=(T pp n).toCx) (v:=.int (Tx.stA ls r:Nat)) B) (zKr (pp:=pp) (n:=n) D u.fw.rows hn)
  rw [show (((Tx.stA ls r:Nat):Int) != ((Tx.stA ls r:Nat):Int))=false from bne_self_eq_false _] at e
  exact zW e (λ q=>zF1 q) λ z=>gd_nil h
theorem zPh (Y:Kn l ls R) (O:Gb l ls R nid o k d fs Z):Gd (ex (.seq zCa qUg) (T pp 6) Z) λ f Z'=>f=.ret (.bool true)/\Z'.obj 0=some (.tab lq):=by
 have D:=Y.text.len
 have X:=Y.rows.le
 have as:=Y.len
 have aw:=List.length_pos_iff.mpr Y.rows.ne
 have S:Tx.flat ls=l:=Y.rows.flat.symm
 refine zJg O (by exact m_f6 D X) ?_
 have aa:ev (T pp 6).toCx (.or (.var "found") (.int 0)) Z=.ok (.int (Tx.stA ls (o.getD 0):Nat)) Z:=by
  have hf:=O.found
  cases o with
  | none=>rw [qPt (qB hf)]; show _=Rs.ok (V.int ((Tx.stA ls 0:Nat):Int)) Z; rw [Tx.stA_zero]; rfl
  | some r=>exact qYa (qB hf)
 have ac:∀ {Z:St},Z.loc.lookup ("number" : Str)=some (qTc o)->ev (T pp 6).toCx (.or (.var "number") (.int 0)) Z=.ok (.int (o.getD 0:Nat)) Z:=by
  intro Z hf
  cases o with
  | none=>exact qPt (qB hf)
  | some r=>exact qYa (qB hf)
 obtain ⟨t1,t2,t3,t4⟩:=qNn Y.rows.lines Y.rows.ne (λ c hc=>(Y.text.signs c (by rw [← S]; exact hc)).2) (by rw [S]; exact d5 D (by decide)) (by rw [S]; exact Y.read)
 have ax:o.getD 0 < ls.length/\R.1[o.getD 0]?≠some 2:=by
  cases ho:o with
  | none=>exact ⟨aw,by show R.1[0]?≠_; rw [t3]; decide⟩
  | some r =>
   obtain ⟨a,b⟩:=O.row r ho
   exact ⟨a,λ q=>by unfold kM at b; rw [show R.1[r]? = some 2 from q] at b; simp at b⟩
 obtain ⟨a0,af⟩:=ax
 obtain ⟨ag,al⟩:=t4 _ a0 af
 have U:=O.number
 have B:=O.parser
 have u:=O.fw
 have J:=O.po
 have a9:=O.fsp
 have ab:=O.nd
 have hk:=O.k
 have hd:=O.d
 have ar:=O.nk
 generalize o.getD 0=r at aa ac a0 af ag al
 clear O
 unfold qUg
 obtain ⟨σ1,a1,fs',a2,a3⟩:=qSn (pp:=pp) (n:=5) (ls:=ls) (r:=r) (n1 a0) (by rw [S]; exact d5 D (by decide)) J (lv:=0) (by rw [S]; exact a9)
 refine xI (xM (qB B) (J.get bT (a9.kx.meth (by decide)) (by rfl)) (qJ aa rfl) a1) ?_
 rw [a2]
 replace u:=u.heap (H:=hput Z.toHp d (.dict fs')) (u.hw.of (d7 _) λ i hi=>qH (by exact m_f3 ab hi))
 replace J:PO ({ Z with toHp:=hput Z.toHp d (.dict fs') }:St).toHp k d fs':=J.put
 replace U:({ Z with toHp:=hput Z.toHp d (.dict fs') }:St).loc.lookup ("number" : Str)=some (qTc o):=U
 replace B:({ Z with toHp:=hput Z.toHp d (.dict fs') }:St).loc.lookup ("parser" : Str)=some (.ref k):=B
 replace hk:k < ({ Z with toHp:=hput Z.toHp d (.dict fs') }:St).nxt:=hk
 replace hd:d < ({ Z with toHp:=hput Z.toHp d (.dict fs') }:St).nxt:=hd
 generalize ({ Z with toHp:=hput Z.toHp d (.dict fs') }:St)=Z at u J U B hk hd ⊢
 clear a1 a2 aa a9
 have h4:=u.hw.h4
 refine qD (qCh (ac U) (yZ (c:=1) (o:=none) (by rw [u.cel]; rfl) u.hw.o1) ?_)
 replace u:Fw (some (.int (r:Nat))) l ls R nid { Z with toHp:=hput Z.toHp 1 (.cell (some (.int (r:Nat)))) }:=u.heap
  ⟨(qH (by decide)).trans u.hw.o0,xW,(qH (by decide)).trans u.hw.o2,(qH (by decide)).trans u.hw.o3,(qH (by lia)).trans u.hw.oN,h4,u.hw.hn⟩
 replace J:PO ({ Z with toHp:=hput Z.toHp 1 (.cell (some (.int (r:Nat)))) }:St).toHp k d fs':=J.oth (by exact m_f7 ar h4) (by exact m_f7 ab h4)
 replace B:({ Z with toHp:=hput Z.toHp 1 (.cell (some (.int (r:Nat)))) }:St).loc.lookup ("parser" : Str)=some (.ref k):=B
 replace hk:k < ({ Z with toHp:=hput Z.toHp 1 (.cell (some (.int (r:Nat)))) }:St).nxt:=hk
 replace hd:d < ({ Z with toHp:=hput Z.toHp 1 (.cell (some (.int (r:Nat)))) }:St).nxt:=hd
 generalize ({ Z with toHp:=hput Z.toHp 1 (.cell (some (.int (r:Nat)))) }:St)=Z at u J B hk hd ⊢
 clear U ac
 have ak:Ready Z.toHp k d fs' 4 8 (tx (Tx.flat (ls.drop r))) (yG R.1 ls.length r) (contF R) :=
  ⟨J,hk,hd,a3,jV (λ c hc=>(Y.text.signs c (by rw [← S]; exact qKz hc)).1) (d5 qQq (by rw [S]; exact d5 D (by decide))),ag,al⟩
 obtain ⟨σ2,b1,b2,fs2,b3⟩:=qZp (pp:=pp) (n:=4) ak
 have c1:=xM (qB (cx:=(T pp 6).toCx) B) (J.get bT (a3.kx.meth (by decide)) (m:="get_continuation_type") (a:=172) (by rfl)) (show ev (T pp 6).toCx .nil Z=.ok (.list []) Z from rfl) b1
 replace u:=u.heap (H:=σ2.toHp) (u.hw.of b2.nxt λ i hi=>b2.same i (m1 hi u.hw.hn) (by exact m_f3 ab hi))
 have c2:=zKl (op:=.NotEq) c1 (qB (cx:=(T pp 6).toCx) u.due) zQe
 rw [show (((contF R:Nat):Int) != ((contF R:Nat):Int))=false from bne_self_eq_false _] at c2
 refine qZx c2 (λ q=>zF1 q) λ z=>gd_nil ?_
 replace B:({ Z with toHp:=σ2.toHp }:St).loc.lookup ("parser" : Str)=some (.ref k):=B
 replace b3:Std ({ Z with toHp:=σ2.toHp }:St).toHp k d 4 8 (tx (Tx.flat (ls.drop r))) (yG R.1 ls.length r) (contF R) fs2:=b3
 generalize ({ Z with toHp:=σ2.toHp }:St)=Z at u B b3 ⊢
 clear b1 b2 c1 c2 ak a3 J hk hd
 have L:∀ loc:List (Str×V),∀ t,ev (T pp 6).toCx (.cv "first") ⟨Z.toHp,loc,Z.cel,t⟩=.ok (.int (r:Nat)) ⟨Z.toHp,loc,Z.cel,t⟩:=λ loc t=>qBi (Z:=⟨Z.toHp,loc,Z.cel,t⟩) (c:=1) (by show Z.cel.lookup _=_; rw [u.cel]; rfl) u.hw.o1
 have ah:∀ {Z:St},Z.loc.lookup ("rows" : Str)=some (.list ((ls.map tx).map .str))->ev (T pp 6).toCx (.call (.glob "len") (.cons (.var "rows") .nil)) Z=.ok (.int (ls.length:Nat)) Z:=λ h=>qAt (qB h) (by show okH (.int (((ls.map tx).map V.str).length:Nat)) _=_; rw [k0,k0])
 have a7:ev (T pp 6).toCx (.call (.glob "range") (.cons (.bin .Add (.cv "first") (.int 1)) (.cons (.call (.glob "len") (.cons (.var "rows") .nil)) .nil))) Z=.ok (.rng ((r+1:Nat):Int) (ls.length:Nat) 1) Z :=
  xZ (Z':={ toHp:=Z.toHp,loc:=[] }) (qZ (by rw [bT.gl]; rfl)) (qJ (zP (L Z.loc Z.tbl) rfl) (qJ (ah u.rows) rfl)) (by
   rw [qPf,qCv,zLn]
   exact c7 (zKx (a:=r+1) (by exact m_f8 D X a0) (by lia)))
 have aj:=qCm (qBf (pp:=pp) 6) (x:="k") (cond:=.cmp .Eq (.idx (.cv "notes") (.var "k")) (.int 0)) (zJt R.1) a7 (zRf a0) (λ y hy=>by
  obtain ⟨i,hi,rfl⟩:=List.mem_map.mp hy
  have ai:=List.mem_range'_1.mp hi
  have hv:R.1[i]? = some (R.1[i]'(by exact as ▸ k9 (n_rl ai))):=n3 _
  have au:ev (T pp 6).toCx (.cv "notes") ⟨Z.toHp,[("k", .int (i:Nat))],Z.cel,none⟩=.ok (.ref nid) ⟨Z.toHp,[("k", .int (i:Nat))],Z.cel,none⟩:=qBi (Z:=⟨Z.toHp,[("k", .int (i:Nat))],Z.cel,none⟩) (c:=2) (by show Z.cel.lookup _=_; rw [u.cel]; rfl) u.hw.o2
  have e:=xF au (qB (x:="k") rfl) (wE (a:=.ref nid) (i:=i) rfl (show asO (Z.obj nid)=some (natsV R.1) by rw [show Z.obj nid=_ from u.hw.oN]; rfl) (by exact n_e4 D X ai) hv)
  have e2:=vT e (show ev (T pp 6).toCx (.int 0) _=.ok (.int ((0:Nat):Int)) _ from rfl)
  rw [vH] at e2
  refine e2.trans (g8 (λ b=>Rs.ok (V.bool b) _) ?_)
  show _=(R.1[i]? == some 0)
  rw [hv]
  exact Bool.eq_iff_iff.mpr (by rw [j4,j8,dF])) (by rw [k0,List.length_range']; exact n_e5 D X)
 have a8:ev (T pp 6).toCx (.comp (.var "k") "k" (.call (.glob "range") (.cons (.bin .Add (.cv "first") (.int 1)) (.cons (.call (.glob "len") (.cons (.var "rows") .nil)) .nil))) (.cmp .Eq (.idx (.cv "notes") (.var "k")) (.int 0))) Z=.ok (.list (natsV (zO R.1 ls.length r))) Z:=aj.trans (g8 (λ x=>Rs.ok (V.list x) Z) qRi)
 refine qE a8 ?_
 have f1:=@qC Z "begun" (.list (natsV (zO R.1 ls.length r)))
 replace B:=@qA Z "begun" "parser" (.list (natsV (zO R.1 ls.length r))) _ (by decide) B
 replace u:=u.set (y:="begun") (v:=.list (natsV (zO R.1 ls.length r))) (by decide) (by decide)
 replace L:∀ loc:List (Str×V),∀ t,ev (T pp 6).toCx (.cv "first") ⟨(Z.set "begun" (.list (natsV (zO R.1 ls.length r)))).toHp,loc,(Z.set "begun" (.list (natsV (zO R.1 ls.length r)))).cel,t⟩=.ok (.int (r:Nat)) ⟨(Z.set "begun" (.list (natsV (zO R.1 ls.length r)))).toHp,loc,(Z.set "begun" (.list (natsV (zO R.1 ls.length r)))).cel,t⟩:=L
 replace b3:Std (Z.set "begun" (.list (natsV (zO R.1 ls.length r)))).toHp k d 4 8 (tx (Tx.flat (ls.drop r))) (yG R.1 ls.length r) (contF R) fs2:=b3
 generalize Z.set "begun" (.list (natsV (zO R.1 ls.length r)))=Z at u B f1 L b3 ⊢
 clear aj a8 a7
 obtain ⟨j,j1,j2,_,_⟩:=b3.st
 have ae:ev (T pp 6).toCx (.attr (.var "parser") "goodlines") Z=.ok (.ref j) Z:=yI (qB B) (b3.po.fld bT (by decide) j1.good rfl)
 have a6:=qVc (N:=R.1) (m:=ls.length) (k:=r)
 have aq:(yG R.1 ls.length r).length<=1000:=by
  unfold yG
  rw [m7,g7,k0,k8]; exact m_f9 D X a6
 have hL:=qHd (qBf (pp:=pp) 6) (elt:=.bin .Add (.cv "first") (.var "k")) (x:="k") (zKb r) ae (show asO (Z.obj j)=some (natsV (yG R.1 ls.length r)) by rw [show Z.obj j=_ from j2]; rfl) (λ y hy=>by
  obtain ⟨i,hi,rfl⟩:=List.mem_map.mp hy
  exact zP (L _ none) (qB (x:="k") rfl)) (by rw [kU]; exact d5 aq (by decide))
 rw [qTa,qTy a0] at hL
 have ao:ev (T pp 6).toCx (.list (.cons (.cv "first") .nil)) Z=.ok (.list (natsV [r])) Z:=xO (qJ (L Z.loc Z.tbl) rfl) (by show 1<=g0; decide)
 have az:ev (T pp 6).toCx (.list (.cons (.call (.glob "len") (.cons (.var "rows") .nil)) .nil)) Z=.ok (.list (natsV [ls.length])) Z:=xO (qJ (ah u.rows) rfl) (by show 1<=g0; decide)
 have ap:=qHb (qHb ao (qB f1) (by rw [k8]; exact m_g0 D X a6)) az (by rw [g7,k8,k8]; exact m_g1 D X a6)
 exact qD (kL (xG hL ap zIp) ⟨rfl,u.hw.o0⟩)
end
theorem plain09:qRg:=λ p ns hn=>by
 obtain ⟨f,Z',e,rfl,h⟩:=zPj (pp:=p) hn (Q:=λ f Z'=>f=.ret (.bool true)/\Z'.obj 0=some (.tab lq)) λ l ls R nid Z u D=>zPi u D λ o k d fs Z B=>zPh u B
 exact ⟨Z',e,h⟩
end Mine.Lake.L09
end
set_option maxRecDepth 100000 in
theorem PySem.Challenge.cw_dm0167_02_holds : PySem.Challenge.rw_dm0167_02.Holds :=
 Mine.Lake.L09.joined Mine.Lake.L09.plain09
