import PyProof.Rows.All
import OpenK.KLine
import KE.KLam
import PyProof.IsiH_list
import PyProof.MeetsSeq2
import PyProof.RulesDelMore
import PyProof.WalksMore
import PyProof.Rows.SumAny
import PyProof.P3Eq
import PySem.Challenge.RW_dm0167_07
set_option Elab.async false
set_option linter.all false
set_option bootstrap.genMatcherCode false
set_option genSizeOf false
set_option genInjectivity false
set_option genCtorIdx false
set_option genSizeOfSpec false
set_option maxRecDepth 100000
set_option maxHeartbeats 8000000
local macro_rules
  | `(tactic| lia) => `(tactic| lia -abstractProof)
noncomputable section
namespace MineTop
open PySem PySem.W PyProof.Rows
theorem zMb (h:PySem.Challenge.rw_dm0167_07.row.Holds):PySem.Challenge.rw_dm0167_07.Holds :=
 holds_law (by
  unfold OpenLaw.wellSaid OpenRow.wellSaid OpenRow.partSaid looksOpen
  repeat' with_reducible refine look_both ?_ ?_
  all_goals kernel_rfl) fun _=>h
noncomputable def nth:List Stmt→Nat→Stmt
 | [],_=>.Return none ⟨0,0,0,0⟩
 | a::_,0=>a
 | _::r,n+1=>nth r n
noncomputable def cls:Stmt→List Stmt
 | .ClassDef _ _ _ b ..=>b
 | _=>[]
noncomputable def zMi:Stmt→FuncData
 | .FunctionDef n ps b _ _ _ sc _ _ _=>⟨n,n,ps,.stmts b,sc,0,[],.none,.none,.none,.none,none,.none,.none,0⟩
 | _=>default
noncomputable def odds:List Obj→List Obj
 | []=>[]
 | [a]=>[a]
 | a::_::r=>a::odds r
noncomputable def bt:Nat→List Obj→BT
 | 0,_=>.nil
 | _+1,[]=>.nil
 | n+1,o::r=>.node o (bt n (odds r)) (bt n (odds r.tail))
noncomputable def Lz (s:Str):String:=if h:S.low s.cps.toList=true then S.litE (s.cps.toList.map UInt8.ofNat) s.cps.toList h rfl else ""
noncomputable abbrev Iz (n:Nat):Value:=.int (.ofNat n) 0
noncomputable abbrev Jz (n m:Nat):Value:=.int (.ofNat n) m
noncomputable abbrev Fz (x:Stmt) (a b:Str):Data:=.func { zMi x with name:=a,qualname:=b,globals:=0,closure:=[],defaults:=.none,kwdefaults:=.none,doc:=.none,pyModule:=.none,annotations:=none,code:=.none,closureTuple:=.none,builtins:=0 }
noncomputable abbrev Gz (x:Stmt) (a b:Str) (m c:Value):Data:=.func { zMi x with name:=a,qualname:=b,globals:=3,closure:=[],defaults:=.none,kwdefaults:=.none,doc:=.none,pyModule:=m,annotations:=none,code:=c,closureTuple:=.none,builtins:=0 }
noncomputable abbrev kh (P:Params) (x:Str):Int:=PySem.PyData.keyHash P x
noncomputable def TB:List Stmt:=Challenge.pw_dm0167_07.main.body
noncomputable def s0:Str:="__name__"
noncomputable def s1:Str:="builtins"
noncomputable def s2:Str:="__doc__"
noncomputable def s3:Str:="__package__"
noncomputable def s4:Str:="__loader__"
noncomputable def s5:Str:="__spec__"
noncomputable def s16:Str:="compile"
noncomputable def qPz:Str:="copyright"
noncomputable def qPy:Str:="__main__"
noncomputable def vC:Str:="_sre"
noncomputable def wY:Str:="__annotations__"
noncomputable def wX:Str:="__builtins__"
noncomputable def wW:Str:="__file__"
noncomputable def qO:Str:="/claim/cut.py"
noncomputable def wV:Str:="__cached__"
noncomputable def zBc:Str:="<module>"
noncomputable def zBb:Str:=⟨⟨[]⟩⟩
noncomputable def zBa:Str:="template"
noncomputable def zAz:Str:="getcodesize"
noncomputable def zAy:Str:="ascii_iscased"
noncomputable def zAx:Str:="unicode_iscased"
noncomputable def zAw:Str:="ascii_tolower"
noncomputable def zAv:Str:="unicode_tolower"
noncomputable def zAu:Str:="MAGIC"
noncomputable def zAt:Str:="CODESIZE"
noncomputable def zAs:Str:="MAXREPEAT"
noncomputable def zAr:Str:="MAXGROUPS"
noncomputable def qAn:Str:="__module__"
noncomputable def qAm:Str:="__firstlineno__"
noncomputable def qAl:Str:="__static_attributes__"
noncomputable def qAk:Str:="__dict__"
noncomputable def qAj:Str:="__weakref__"
noncomputable def qEu:Str:="__init__"
noncomputable def kB:Str:="cpy313.idlelib.pyparse"
noncomputable def vT:Str:="_wall"
noncomputable def yF:Str:="_twin_re_1"
noncomputable def yE:Str:="_twin_re_2"
noncomputable def uI:Str:="_twin_re_3"
noncomputable def uH:Str:="_twin_re_6"
noncomputable def qAi:Str:="C_NONE"
noncomputable def qAh:Str:="C_BACKSLASH"
noncomputable def qAg:Str:="C_STRING_FIRST_LINE"
noncomputable def qAf:Str:="C_STRING_NEXT_LINES"
noncomputable def qAe:Str:="C_BRACKET"
noncomputable def qBm:Str:="_synchre"
noncomputable def qBl:Str:="_junkre"
noncomputable def qBk:Str:="_match_stringre"
noncomputable def qBj:Str:="_chew_ordinaryre"
noncomputable def yD:Str:="ParseMap"
noncomputable def zAq:Str:="__qualname__"
noncomputable def qKm:Str:="__missing__"
noncomputable def yC:Str:="self"
noncomputable def qKl:Str:="trans"
noncomputable def qAd:Str:="<genexpr>"
noncomputable def qPx:Str:=".0"
noncomputable def qPw:Str:="c"
noncomputable def qBi:Str:="Parser"
noncomputable def qKk:Str:="set_code"
noncomputable def qKj:Str:="find_good_parse_start"
noncomputable def qKi:Str:="set_lo"
noncomputable def qKh:Str:="_study1"
noncomputable def qKg:Str:="get_continuation_type"
noncomputable def qKf:Str:="_study2"
noncomputable def qKe:Str:="compute_bracket_indent"
noncomputable def qKd:Str:="get_num_lines_in_stmt"
noncomputable def qKc:Str:="compute_backslash_indent"
noncomputable def qKb:Str:="get_base_indent_string"
noncomputable def qKa:Str:="is_block_opener"
noncomputable def qJz:Str:="is_block_closer"
noncomputable def qJy:Str:="get_last_stmt_bracketing"
noncomputable def qPv:Str:="code"
noncomputable def qPu:Str:="law_dm0167_07"
noncomputable def qCx:Str:="_law_four"
noncomputable def qCw:Str:="_law_fresh"
noncomputable def qCv:Str:="_law_two"
noncomputable def qCu:Str:="_law_place"
noncomputable def qCt:Str:="law"
noncomputable def t0:String:=SL.s14018661285674007319x4
noncomputable def t1:String:=Lz "builtins.__doc__:str#opaque"
noncomputable def t2:String:=Lz "builtins.__package__:str#opaque"
noncomputable def t3:String:=Lz "builtins.__loader__:shared#opaque"
noncomputable def t4:String:=SL.s11665532747177232413x24
noncomputable def t5:String:=SL.s15183661809925369436x15
noncomputable def t6:String:=SL.s13915890719876406383x10
noncomputable def t7:String:=SL.s13459172003223722735x3
noncomputable def t8:String:=SL.s10557405761357834076x3
noncomputable def t9:String:=SL.s4233737765568776869x3
noncomputable def t10:String:=SL.s2508922471967985374x5
noncomputable def t61:String:=SL.s9222952809800978799x4
noncomputable def t63:String:=SL.s2742458400755230247x6
noncomputable def t64:String:=SL.s1438033511350832697x5
noncomputable def t70:String:=SL.s4290257624100764138x5
noncomputable def t71:String:=SL.s2766695959194262286x5
noncomputable def t72:String:=SL.s17162191345867700912x4
noncomputable def t82:String:=SL.s9001593270443806431x14
noncomputable def t89:String:=SL.s10852414792293593619x7
noncomputable def t93:String:=SL.s5991306692159431302x13
noncomputable def qGr:String:=SL.s7097527257260152453x26
noncomputable def zHf:String:=SL.s6658869562736209489x6
noncomputable def xY:String:=SL.s5856160107412720595x4
noncomputable def qJm:String:=SL.s658472552662922059x5
noncomputable def qGq:String:=SL.s14755015743595814543x17
noncomputable def qZu:String:=SL.s6511155373996960695x17
noncomputable def qZt:String:=SL.s12411053484034534018x21
noncomputable def qZs:String:=SL.s10220274742760427390x26
noncomputable def vK:String:=SL.s7174869446012820540x8
noncomputable def qZr:String:=SL.s12171344214640291687x10
noncomputable def qCr:String:=SL.s15992201931430999065x14
noncomputable def qGp:String:=SL.s11030030927630378310x26
noncomputable def zHe:String:=SL.s67735186229215510x16
noncomputable def zHd:String:=SL.s7929333955151719606x9
noncomputable def i3:Value:=(Iz 3)
noncomputable def i1:Value:=(Iz 1)
noncomputable def i0:Value:=(Iz 0)
noncomputable def i13:Value:=(Iz 13)
noncomputable def i21:Value:=(Iz 21)
noncomputable def kD:Value:=(Iz 276)
noncomputable def i2:Value:=(Iz 2)
noncomputable def i4:Value:=(Iz 4)
noncomputable def qH:Value:=(Iz 4294967295)
noncomputable def i24:Value:=(Iz 24)
noncomputable def i16:Value:=(Iz 16)
noncomputable def i9:Value:=(Iz 9)
noncomputable def i7:Value:=(Iz 7)
noncomputable def uN:Value:=(Iz 101)
noncomputable def i15:Value:=(Iz 15)
noncomputable def i23:Value:=(Iz 23)
noncomputable def i34:Value:=(Iz 34)
noncomputable def i39:Value:=(Iz 39)
noncomputable def i12:Value:=(Iz 12)
noncomputable def e0:DictEntry:=⟨(.ofNat 0),(Jz 0 908),(Jz 120 907)⟩
noncomputable def e1:DictEntry:=⟨(.ofNat 1),(Jz 1 910),(Jz 120 907)⟩
noncomputable def e2:DictEntry:=⟨(.ofNat 2),(Jz 2 912),(Jz 120 907)⟩
noncomputable def e3:DictEntry:=⟨(.ofNat 3),(Jz 3 914),(Jz 120 907)⟩
noncomputable def e4:DictEntry:=⟨(.ofNat 4),(Jz 4 916),(Jz 120 907)⟩
noncomputable def e5:DictEntry:=⟨(.ofNat 5),(Jz 5 918),(Jz 120 907)⟩
noncomputable def e6:DictEntry:=⟨(.ofNat 6),(Jz 6 920),(Jz 120 907)⟩
noncomputable def e7:DictEntry:=⟨(.ofNat 7),(Jz 7 922),(Jz 120 907)⟩
noncomputable def e8:DictEntry:=⟨(.ofNat 8),(Jz 8 924),(Jz 120 907)⟩
noncomputable def e9:DictEntry:=⟨(.ofNat 9),(Jz 9 926),(Jz 120 907)⟩
noncomputable def e10:DictEntry:=⟨(.ofNat 10),(Jz 10 928),(Jz 120 907)⟩
noncomputable def e11:DictEntry:=⟨(.ofNat 11),(Jz 11 930),(Jz 120 907)⟩
noncomputable def e12:DictEntry:=⟨(.ofNat 12),(Jz 12 932),(Jz 120 907)⟩
noncomputable def e13:DictEntry:=⟨(.ofNat 13),(Jz 13 934),(Jz 120 907)⟩
noncomputable def e14:DictEntry:=⟨(.ofNat 14),(Jz 14 936),(Jz 120 907)⟩
noncomputable def e15:DictEntry:=⟨(.ofNat 15),(Jz 15 938),(Jz 120 907)⟩
noncomputable def e16:DictEntry:=⟨(.ofNat 16),(Jz 16 940),(Jz 120 907)⟩
noncomputable def e17:DictEntry:=⟨(.ofNat 17),(Jz 17 942),(Jz 120 907)⟩
noncomputable def e18:DictEntry:=⟨(.ofNat 18),(Jz 18 944),(Jz 120 907)⟩
noncomputable def e19:DictEntry:=⟨(.ofNat 19),(Jz 19 946),(Jz 120 907)⟩
noncomputable def e20:DictEntry:=⟨(.ofNat 20),(Jz 20 948),(Jz 120 907)⟩
noncomputable def e21:DictEntry:=⟨(.ofNat 21),(Jz 21 950),(Jz 120 907)⟩
noncomputable def e22:DictEntry:=⟨(.ofNat 22),(Jz 22 952),(Jz 120 907)⟩
noncomputable def e23:DictEntry:=⟨(.ofNat 23),(Jz 23 954),(Jz 120 907)⟩
noncomputable def e24:DictEntry:=⟨(.ofNat 24),(Jz 24 956),(Jz 120 907)⟩
noncomputable def e25:DictEntry:=⟨(.ofNat 25),(Jz 25 958),(Jz 120 907)⟩
noncomputable def e26:DictEntry:=⟨(.ofNat 26),(Jz 26 960),(Jz 120 907)⟩
noncomputable def e27:DictEntry:=⟨(.ofNat 27),(Jz 27 962),(Jz 120 907)⟩
noncomputable def e28:DictEntry:=⟨(.ofNat 28),(Jz 28 964),(Jz 120 907)⟩
noncomputable def e29:DictEntry:=⟨(.ofNat 29),(Jz 29 966),(Jz 120 907)⟩
noncomputable def e30:DictEntry:=⟨(.ofNat 30),(Jz 30 968),(Jz 120 907)⟩
noncomputable def e31:DictEntry:=⟨(.ofNat 31),(Jz 31 970),(Jz 120 907)⟩
noncomputable def e32:DictEntry:=⟨(.ofNat 32),(Jz 32 972),(Jz 120 907)⟩
noncomputable def e33:DictEntry:=⟨(.ofNat 33),(Jz 33 974),(Jz 120 907)⟩
noncomputable def e34:DictEntry:=⟨(.ofNat 34),(Jz 34 976),(Jz 120 907)⟩
noncomputable def e35:DictEntry:=⟨(.ofNat 35),(Jz 35 978),(Jz 120 907)⟩
noncomputable def e36:DictEntry:=⟨(.ofNat 36),(Jz 36 980),(Jz 120 907)⟩
noncomputable def e37:DictEntry:=⟨(.ofNat 37),(Jz 37 982),(Jz 120 907)⟩
noncomputable def e38:DictEntry:=⟨(.ofNat 38),(Jz 38 984),(Jz 120 907)⟩
noncomputable def e39:DictEntry:=⟨(.ofNat 39),(Jz 39 986),(Jz 120 907)⟩
noncomputable def e40:DictEntry:=⟨(.ofNat 40),(Jz 40 988),(Jz 120 907)⟩
noncomputable def e41:DictEntry:=⟨(.ofNat 41),(Jz 41 990),(Jz 120 907)⟩
noncomputable def e42:DictEntry:=⟨(.ofNat 42),(Jz 42 992),(Jz 120 907)⟩
noncomputable def e43:DictEntry:=⟨(.ofNat 43),(Jz 43 994),(Jz 120 907)⟩
noncomputable def e44:DictEntry:=⟨(.ofNat 44),(Jz 44 996),(Jz 120 907)⟩
noncomputable def e45:DictEntry:=⟨(.ofNat 45),(Jz 45 998),(Jz 120 907)⟩
noncomputable def e46:DictEntry:=⟨(.ofNat 46),(Jz 46 1000),(Jz 120 907)⟩
noncomputable def e47:DictEntry:=⟨(.ofNat 47),(Jz 47 1002),(Jz 120 907)⟩
noncomputable def e48:DictEntry:=⟨(.ofNat 48),(Jz 48 1004),(Jz 120 907)⟩
noncomputable def e49:DictEntry:=⟨(.ofNat 49),(Jz 49 1006),(Jz 120 907)⟩
noncomputable def e50:DictEntry:=⟨(.ofNat 50),(Jz 50 1008),(Jz 120 907)⟩
noncomputable def e51:DictEntry:=⟨(.ofNat 51),(Jz 51 1010),(Jz 120 907)⟩
noncomputable def e52:DictEntry:=⟨(.ofNat 52),(Jz 52 1012),(Jz 120 907)⟩
noncomputable def e53:DictEntry:=⟨(.ofNat 53),(Jz 53 1014),(Jz 120 907)⟩
noncomputable def e54:DictEntry:=⟨(.ofNat 54),(Jz 54 1016),(Jz 120 907)⟩
noncomputable def e55:DictEntry:=⟨(.ofNat 55),(Jz 55 1018),(Jz 120 907)⟩
noncomputable def e56:DictEntry:=⟨(.ofNat 56),(Jz 56 1020),(Jz 120 907)⟩
noncomputable def e57:DictEntry:=⟨(.ofNat 57),(Jz 57 1022),(Jz 120 907)⟩
noncomputable def e58:DictEntry:=⟨(.ofNat 58),(Jz 58 1024),(Jz 120 907)⟩
noncomputable def e59:DictEntry:=⟨(.ofNat 59),(Jz 59 1026),(Jz 120 907)⟩
noncomputable def e60:DictEntry:=⟨(.ofNat 60),(Jz 60 1028),(Jz 120 907)⟩
noncomputable def e61:DictEntry:=⟨(.ofNat 61),(Jz 61 1030),(Jz 120 907)⟩
noncomputable def e62:DictEntry:=⟨(.ofNat 62),(Jz 62 1032),(Jz 120 907)⟩
noncomputable def e63:DictEntry:=⟨(.ofNat 63),(Jz 63 1034),(Jz 120 907)⟩
noncomputable def e64:DictEntry:=⟨(.ofNat 64),(Jz 64 1036),(Jz 120 907)⟩
noncomputable def e65:DictEntry:=⟨(.ofNat 65),(Jz 65 1038),(Jz 120 907)⟩
noncomputable def e66:DictEntry:=⟨(.ofNat 66),(Jz 66 1040),(Jz 120 907)⟩
noncomputable def e67:DictEntry:=⟨(.ofNat 67),(Jz 67 1042),(Jz 120 907)⟩
noncomputable def e68:DictEntry:=⟨(.ofNat 68),(Jz 68 1044),(Jz 120 907)⟩
noncomputable def e69:DictEntry:=⟨(.ofNat 69),(Jz 69 1046),(Jz 120 907)⟩
noncomputable def e70:DictEntry:=⟨(.ofNat 70),(Jz 70 1048),(Jz 120 907)⟩
noncomputable def e71:DictEntry:=⟨(.ofNat 71),(Jz 71 1050),(Jz 120 907)⟩
noncomputable def e72:DictEntry:=⟨(.ofNat 72),(Jz 72 1052),(Jz 120 907)⟩
noncomputable def e73:DictEntry:=⟨(.ofNat 73),(Jz 73 1054),(Jz 120 907)⟩
noncomputable def e74:DictEntry:=⟨(.ofNat 74),(Jz 74 1056),(Jz 120 907)⟩
noncomputable def e75:DictEntry:=⟨(.ofNat 75),(Jz 75 1058),(Jz 120 907)⟩
noncomputable def e76:DictEntry:=⟨(.ofNat 76),(Jz 76 1060),(Jz 120 907)⟩
noncomputable def e77:DictEntry:=⟨(.ofNat 77),(Jz 77 1062),(Jz 120 907)⟩
noncomputable def e78:DictEntry:=⟨(.ofNat 78),(Jz 78 1064),(Jz 120 907)⟩
noncomputable def e79:DictEntry:=⟨(.ofNat 79),(Jz 79 1066),(Jz 120 907)⟩
noncomputable def e80:DictEntry:=⟨(.ofNat 80),(Jz 80 1068),(Jz 120 907)⟩
noncomputable def e81:DictEntry:=⟨(.ofNat 81),(Jz 81 1070),(Jz 120 907)⟩
noncomputable def e82:DictEntry:=⟨(.ofNat 82),(Jz 82 1072),(Jz 120 907)⟩
noncomputable def e83:DictEntry:=⟨(.ofNat 83),(Jz 83 1074),(Jz 120 907)⟩
noncomputable def e84:DictEntry:=⟨(.ofNat 84),(Jz 84 1076),(Jz 120 907)⟩
noncomputable def e85:DictEntry:=⟨(.ofNat 85),(Jz 85 1078),(Jz 120 907)⟩
noncomputable def e86:DictEntry:=⟨(.ofNat 86),(Jz 86 1080),(Jz 120 907)⟩
noncomputable def e87:DictEntry:=⟨(.ofNat 87),(Jz 87 1082),(Jz 120 907)⟩
noncomputable def e88:DictEntry:=⟨(.ofNat 88),(Jz 88 1084),(Jz 120 907)⟩
noncomputable def e89:DictEntry:=⟨(.ofNat 89),(Jz 89 1086),(Jz 120 907)⟩
noncomputable def e90:DictEntry:=⟨(.ofNat 90),(Jz 90 1088),(Jz 120 907)⟩
noncomputable def e91:DictEntry:=⟨(.ofNat 91),(Jz 91 1090),(Jz 120 907)⟩
noncomputable def e92:DictEntry:=⟨(.ofNat 92),(Jz 92 1092),(Jz 120 907)⟩
noncomputable def e93:DictEntry:=⟨(.ofNat 93),(Jz 93 1094),(Jz 120 907)⟩
noncomputable def e94:DictEntry:=⟨(.ofNat 94),(Jz 94 1096),(Jz 120 907)⟩
noncomputable def e95:DictEntry:=⟨(.ofNat 95),(Jz 95 1098),(Jz 120 907)⟩
noncomputable def e96:DictEntry:=⟨(.ofNat 96),(Jz 96 1100),(Jz 120 907)⟩
noncomputable def e97:DictEntry:=⟨(.ofNat 97),(Jz 97 1102),(Jz 120 907)⟩
noncomputable def e98:DictEntry:=⟨(.ofNat 98),(Jz 98 1104),(Jz 120 907)⟩
noncomputable def e99:DictEntry:=⟨(.ofNat 99),(Jz 99 1106),(Jz 120 907)⟩
noncomputable def qRu:DictEntry:=⟨(.ofNat 100),(Jz 100 1108),(Jz 120 907)⟩
noncomputable def qRt:DictEntry:=⟨(.ofNat 101),(Jz 101 1110),(Jz 120 907)⟩
noncomputable def qRs:DictEntry:=⟨(.ofNat 102),(Jz 102 1112),(Jz 120 907)⟩
noncomputable def qRr:DictEntry:=⟨(.ofNat 103),(Jz 103 1114),(Jz 120 907)⟩
noncomputable def qRq:DictEntry:=⟨(.ofNat 104),(Jz 104 1116),(Jz 120 907)⟩
noncomputable def qRp:DictEntry:=⟨(.ofNat 105),(Jz 105 1118),(Jz 120 907)⟩
noncomputable def qRo:DictEntry:=⟨(.ofNat 106),(Jz 106 1120),(Jz 120 907)⟩
noncomputable def qRn:DictEntry:=⟨(.ofNat 107),(Jz 107 1122),(Jz 120 907)⟩
noncomputable def qRm:DictEntry:=⟨(.ofNat 108),(Jz 108 1124),(Jz 120 907)⟩
noncomputable def qRl:DictEntry:=⟨(.ofNat 109),(Jz 109 1126),(Jz 120 907)⟩
noncomputable def qRk:DictEntry:=⟨(.ofNat 110),(Jz 110 1128),(Jz 120 907)⟩
noncomputable def qRj:DictEntry:=⟨(.ofNat 111),(Jz 111 1130),(Jz 120 907)⟩
noncomputable def qYa:DictEntry:=⟨(.ofNat 112),(Jz 112 1132),(Jz 120 907)⟩
noncomputable def qXz:DictEntry:=⟨(.ofNat 113),(Jz 113 1134),(Jz 120 907)⟩
noncomputable def qXy:DictEntry:=⟨(.ofNat 114),(Jz 114 1136),(Jz 120 907)⟩
noncomputable def qXx:DictEntry:=⟨(.ofNat 115),(Jz 115 1138),(Jz 120 907)⟩
noncomputable def qXw:DictEntry:=⟨(.ofNat 116),(Jz 116 1140),(Jz 120 907)⟩
noncomputable def qXv:DictEntry:=⟨(.ofNat 117),(Jz 117 1142),(Jz 120 907)⟩
noncomputable def qXu:DictEntry:=⟨(.ofNat 118),(Jz 118 1144),(Jz 120 907)⟩
noncomputable def qXt:DictEntry:=⟨(.ofNat 119),(Jz 119 1146),(Jz 120 907)⟩
noncomputable def qXs:DictEntry:=⟨(.ofNat 120),(Jz 120 1148),(Jz 120 907)⟩
noncomputable def qXr:DictEntry:=⟨(.ofNat 121),(Jz 121 1150),(Jz 120 907)⟩
noncomputable def qXq:DictEntry:=⟨(.ofNat 122),(Jz 122 1152),(Jz 120 907)⟩
noncomputable def qXp:DictEntry:=⟨(.ofNat 124),(Jz 124 1156),(Jz 120 907)⟩
noncomputable def qXo:DictEntry:=⟨(.ofNat 126),(Jz 126 1160),(Jz 120 907)⟩
noncomputable def qXn:DictEntry:=⟨(.ofNat 127),(Jz 127 1162),(Jz 120 907)⟩
noncomputable def zKr:DictEntry:=⟨(.ofNat 40),(Jz 40 988),(Jz 40 1181)⟩
noncomputable def zKq:DictEntry:=⟨(.ofNat 91),(Jz 91 1090),(Jz 40 1193)⟩
noncomputable def zKp:DictEntry:=⟨(.ofNat 123),(Jz 123 1154),(Jz 40 1187)⟩
noncomputable def o0 (P:Params):Obj:=⟨(.type t0),none,(.dict #[⟨(kh P s0),(.str s0 1),(.str s1 160)⟩,⟨(kh P s2),(.str s2 2),(.builtin t1)⟩,⟨(kh P s3),(.str s3 3),(.builtin t2)⟩,⟨(kh P s4),(.str s4 4),(.builtin t3)⟩,⟨(kh P s5),(.str s5 5),(.builtin t4)⟩,⟨(kh P "__build_class__"),(.str "__build_class__" 6),(.builtin t5)⟩,⟨(kh P "__import__"),(.str "__import__" 7),(.builtin t6)⟩,⟨(kh P "abs"),(.str "abs" 8),(.builtin t7)⟩,⟨(kh P "all"),(.str "all" 9),(.builtin t8)⟩,⟨(kh P "any"),(.str "any" 10),(.builtin t9)⟩,⟨(kh P "ascii"),(.str "ascii" 11),(.builtin t10)⟩,⟨(kh P "bin"),(.str "bin" 12),(.builtin (SL.s15574269061696679450x3))⟩,⟨(kh P "breakpoint"),(.str "breakpoint" 13),(.builtin (SL.s6016482663378992977x10))⟩,⟨(kh P "callable"),(.str "callable" 14),(.builtin (SL.s5596568736180474577x8))⟩,⟨(kh P "chr"),(.str "chr" 15),(.builtin (SL.s2839554839881490554x3))⟩,⟨(kh P s16),(.str s16 16),(.builtin (SL.s725004073602090463x7))⟩,⟨(kh P "delattr"),(.str "delattr" 17),(.builtin (SL.s9436932552931045734x7))⟩,⟨(kh P "dir"),(.str "dir" 18),(.builtin (SL.s2754603736356183583x3))⟩,⟨(kh P "divmod"),(.str "divmod" 19),(.builtin (SL.s15185746759980889043x6))⟩,⟨(kh P "eval"),(.str "eval" 20),(.builtin (SL.s8192189862530294059x4))⟩,⟨(kh P "exec"),(.str "exec" 21),(.builtin (SL.s7038307821325472102x4))⟩,⟨(kh P "format"),(.str "format" 22),(.builtin (SL.s5662562618415449548x6))⟩,⟨(kh P "getattr"),(.str "getattr" 23),(.builtin (SL.s15281542589158584767x7))⟩,⟨(kh P "globals"),(.str "globals" 24),(.builtin (SL.s17651547275483570877x7))⟩,⟨(kh P "hasattr"),(.str "hasattr" 25),(.builtin (SL.s4036449017235975746x7))⟩,⟨(kh P "hash"),(.str "hash" 26),(.builtin (SL.s8879979712987360175x4))⟩,⟨(kh P "hex"),(.str "hex" 27),(.builtin (SL.s1801250619170735830x3))⟩,⟨(kh P "id"),(.str "id" 28),(.builtin (SL.s17659931425627118568x2))⟩,⟨(kh P "input"),(.str "input" 29),(.builtin (SL.s6063217899685152688x5))⟩,⟨(kh P "isinstance"),(.str "isinstance" 30),(.builtin (SL.s8008927332132565319x10))⟩,⟨(kh P "issubclass"),(.str "issubclass" 31),(.builtin (SL.s3544116645089599534x10))⟩,⟨(kh P "iter"),(.str "iter" 32),(.builtin (SL.s13761710972054866084x4))⟩,⟨(kh P "aiter"),(.str "aiter" 33),(.builtin (SL.s12896375587409280029x5))⟩,⟨(kh P "len"),(.str "len" 34),(.builtin (SL.s13014049009108672802x3))⟩,⟨(kh P "locals"),(.str "locals" 35),(.builtin (SL.s13935586738268321596x6))⟩,⟨(kh P "max"),(.str "max" 36),(.builtin (SL.s8200498257699607233x3))⟩,⟨(kh P "min"),(.str "min" 37),(.builtin (SL.s14114244577727609259x3))⟩,⟨(kh P "next"),(.str "next" 38),(.builtin (SL.s1499430450269397089x4))⟩,⟨(kh P "anext"),(.str "anext" 39),(.builtin (SL.s8755793994789770505x5))⟩,⟨(kh P "oct"),(.str "oct" 40),(.builtin (SL.s15725212667919936108x3))⟩,⟨(kh P "ord"),(.str "ord" 41),(.builtin (SL.s15791221867095933363x3))⟩,⟨(kh P "pow"),(.str "pow" 42),(.builtin (SL.s81309575031448614x3))⟩,⟨(kh P "print"),(.str "print" 43),(.builtin (SL.s8069831620301644142x5))⟩,⟨(kh P "repr"),(.str "repr" 44),(.builtin (SL.s10061844253413749634x4))⟩,⟨(kh P "round"),(.str "round" 45),(.builtin (SL.s9496514870978017513x5))⟩,⟨(kh P "setattr"),(.str "setattr" 46),(.builtin (SL.s8899691144933366716x7))⟩,⟨(kh P "sorted"),(.str "sorted" 47),(.builtin (SL.s15201008993051130160x6))⟩,⟨(kh P "sum"),(.str "sum" 48),(.builtin (SL.s741896355592496720x3))⟩,⟨(kh P "vars"),(.str "vars" 49),(.builtin (SL.s17925004256654032244x4))⟩,⟨(kh P "None"),(.str "None" 50),.none⟩,⟨(kh P "Ellipsis"),(.str "Ellipsis" 51),.ellipsis⟩,⟨(kh P "NotImplemented"),(.str "NotImplemented" 52),.notImplemented⟩,⟨(kh P "False"),(.str "False" 53),(.bool false)⟩,⟨(kh P "True"),(.str "True" 54),(.bool true)⟩,⟨(kh P "bool"),(.str "bool" 55),(.type (SL.s11695548795398191787x4))⟩,⟨(kh P "memoryview"),(.str "memoryview" 56),(.type (SL.s4156966113859768872x10))⟩,⟨(kh P "bytearray"),(.str "bytearray" 57),(.type (SL.s9501651726347032510x9))⟩,⟨(kh P "bytes"),(.str "bytes" 58),(.type (SL.s15722918466584999320x5))⟩,⟨(kh P "classmethod"),(.str "classmethod" 59),(.type (SL.s591115383303110208x11))⟩,⟨(kh P "complex"),(.str "complex" 60),(.type (SL.s15721156781594690315x7))⟩,⟨(kh P "dict"),(.str "dict" 61),(.type t0)⟩,⟨(kh P "enumerate"),(.str "enumerate" 62),(.type (SL.s14340494229221121180x9))⟩,⟨(kh P "filter"),(.str "filter" 63),(.type (SL.s13429844117177748173x6))⟩,⟨(kh P "float"),(.str "float" 64),(.type (SL.s16463266125957815391x5))⟩,⟨(kh P "frozenset"),(.str "frozenset" 65),(.type (SL.s4922535414793169389x9))⟩,⟨(kh P "property"),(.str "property" 66),(.type (SL.s8101838861749082086x8))⟩,⟨(kh P "int"),(.str "int" 67),(.type (SL.s7066276694103001551x3))⟩,⟨(kh P "list"),(.str "list" 68),(.type t61)⟩,⟨(kh P "map"),(.str "map" 69),(.type (SL.s462964344163437139x3))⟩,⟨(kh P "object"),(.str "object" 70),(.type t63)⟩,⟨(kh P "range"),(.str "range" 71),(.type t64)⟩,⟨(kh P "reversed"),(.str "reversed" 72),(.type (SL.s14365286008749172514x8))⟩,⟨(kh P "set"),(.str "set" 73),(.type (SL.s3642769012341782148x3))⟩,⟨(kh P "slice"),(.str "slice" 74),(.type (SL.s4674234679698826739x5))⟩,⟨(kh P "staticmethod"),(.str "staticmethod" 75),(.type (SL.s16656946322747308186x12))⟩,⟨(kh P "str"),(.str "str" 76),(.type (SL.s10796804682411823810x3))⟩,⟨(kh P "super"),(.str "super" 77),(.type t70)⟩,⟨(kh P "tuple"),(.str "tuple" 78),(.type t71)⟩,⟨(kh P "type"),(.str "type" 79),(.type t72)⟩,⟨(kh P "zip"),(.str "zip" 80),(.type (SL.s14339709457334898076x3))⟩,⟨(kh P "__debug__"),(.str "__debug__" 81),(.bool true)⟩,⟨(kh P "BaseException"),(.str "BaseException" 82),(.type (SL.s4278001404047624695x13))⟩,⟨(kh P "BaseExceptionGroup"),(.str "BaseExceptionGroup" 83),(.type (SL.s6585700554429387442x18))⟩,⟨(kh P "Exception"),(.str "Exception" 84),(.type (SL.s5946037652744460706x9))⟩,⟨(kh P "GeneratorExit"),(.str "GeneratorExit" 85),(.type (SL.s7410770068591931388x13))⟩,⟨(kh P "KeyboardInterrupt"),(.str "KeyboardInterrupt" 86),(.type (SL.s11817881795495490833x17))⟩,⟨(kh P "SystemExit"),(.str "SystemExit" 87),(.type (SL.s15679963881808890155x10))⟩,⟨(kh P "ArithmeticError"),(.str "ArithmeticError" 88),(.type (SL.s3871700062485845797x15))⟩,⟨(kh P "AssertionError"),(.str "AssertionError" 89),(.type (SL.s7689518266570723881x14))⟩,⟨(kh P "AttributeError"),(.str "AttributeError" 90),(.type t82)⟩,⟨(kh P "BufferError"),(.str "BufferError" 91),(.type (SL.s6882542574934516792x11))⟩,⟨(kh P "EOFError"),(.str "EOFError" 92),(.type (SL.s14403400214490484960x8))⟩,⟨(kh P "ImportError"),(.str "ImportError" 93),(.type (SL.s14457978657717015782x11))⟩,⟨(kh P "LookupError"),(.str "LookupError" 94),(.type (SL.s1753610191782819921x11))⟩,⟨(kh P "MemoryError"),(.str "MemoryError" 95),(.type (SL.s14119380538032626715x11))⟩,⟨(kh P "NameError"),(.str "NameError" 96),(.type (SL.s11437920000406562045x9))⟩,⟨(kh P "OSError"),(.str "OSError" 97),(.type t89)⟩,⟨(kh P "ReferenceError"),(.str "ReferenceError" 98),(.type (SL.s14816307405966870543x14))⟩,⟨(kh P "RuntimeError"),(.str "RuntimeError" 99),(.type (SL.s8682627914449686677x12))⟩,⟨(kh P "StopAsyncIteration"),(.str "StopAsyncIteration" 100),(.type (SL.s4428170145600203450x18))⟩,⟨(kh P "StopIteration"),(.str "StopIteration" 101),(.type t93)⟩,⟨(kh P "SyntaxError"),(.str "SyntaxError" 102),(.type (SL.s16067994140765818257x11))⟩,⟨(kh P "SystemError"),(.str "SystemError" 103),(.type (SL.s2327743974964600596x11))⟩,⟨(kh P "TypeError"),(.str "TypeError" 104),(.type (SL.s2804747833354056582x9))⟩,⟨(kh P "ValueError"),(.str "ValueError" 105),(.type (SL.s6070975301684473832x10))⟩,⟨(kh P "Warning"),(.str "Warning" 106),(.type (SL.s14270485950484850486x7))⟩,⟨(kh P "FloatingPointError"),(.str "FloatingPointError" 107),(.type (SL.s12041534306414923332x18))⟩,⟨(kh P "OverflowError"),(.str "OverflowError" 108),(.type (SL.s2531307568338490285x13))⟩,⟨(kh P "ZeroDivisionError"),(.str "ZeroDivisionError" 109),(.type (SL.s631175304937289666x17))⟩,⟨(kh P "BytesWarning"),(.str "BytesWarning" 110),(.type (SL.s5144983644357021410x12))⟩,⟨(kh P "DeprecationWarning"),(.str "DeprecationWarning" 111),(.type (SL.s18039099521571816885x18))⟩,⟨(kh P "EncodingWarning"),(.str "EncodingWarning" 112),(.type (SL.s6011586214260557989x15))⟩,⟨(kh P "FutureWarning"),(.str "FutureWarning" 113),(.type (SL.s5430567037509283100x13))⟩,⟨(kh P "ImportWarning"),(.str "ImportWarning" 114),(.type (SL.s8117915138073963741x13))⟩,⟨(kh P "PendingDeprecationWarning"),(.str "PendingDeprecationWarning" 115),(.type (SL.s3423317712779056401x25))⟩,⟨(kh P "ResourceWarning"),(.str "ResourceWarning" 116),(.type (SL.s2007317383269046180x15))⟩,⟨(kh P "RuntimeWarning"),(.str "RuntimeWarning" 117),(.type (SL.s17481586968713580700x14))⟩,⟨(kh P "SyntaxWarning"),(.str "SyntaxWarning" 118),(.type (SL.s2450899226349176912x13))⟩,⟨(kh P "UnicodeWarning"),(.str "UnicodeWarning" 119),(.type (SL.s16626165730633575011x14))⟩,⟨(kh P "UserWarning"),(.str "UserWarning" 120),(.type (SL.s14288496050688921416x11))⟩,⟨(kh P "BlockingIOError"),(.str "BlockingIOError" 121),(.type (SL.s5735081916595925998x15))⟩,⟨(kh P "ChildProcessError"),(.str "ChildProcessError" 122),(.type (SL.s3865607918536308442x17))⟩,⟨(kh P "ConnectionError"),(.str "ConnectionError" 123),(.type (SL.s13337502604062700212x15))⟩,⟨(kh P "FileExistsError"),(.str "FileExistsError" 124),(.type (SL.s13114017843053701147x15))⟩,⟨(kh P "FileNotFoundError"),(.str "FileNotFoundError" 125),(.type (SL.s17467278006356818441x17))⟩,⟨(kh P "InterruptedError"),(.str "InterruptedError" 126),(.type (SL.s17722149559621369488x16))⟩,⟨(kh P "IsADirectoryError"),(.str "IsADirectoryError" 127),(.type (SL.s7855274175708717672x17))⟩,⟨(kh P "NotADirectoryError"),(.str "NotADirectoryError" 128),(.type (SL.s13351283678309829046x18))⟩,⟨(kh P "PermissionError"),(.str "PermissionError" 129),(.type (SL.s6668348653404991179x15))⟩,⟨(kh P "ProcessLookupError"),(.str "ProcessLookupError" 130),(.type (SL.s12913350958174193794x18))⟩,⟨(kh P "TimeoutError"),(.str "TimeoutError" 131),(.type (SL.s16115879512475548326x12))⟩,⟨(kh P "IndentationError"),(.str "IndentationError" 132),(.type (SL.s15920661018069861047x16))⟩,⟨(kh P "_IncompleteInputError"),(.str "_IncompleteInputError" 133),(.type (SL.s10779130036587390575x21))⟩,⟨(kh P "IndexError"),(.str "IndexError" 134),(.type (SL.s7801419657504700863x10))⟩,⟨(kh P "KeyError"),(.str "KeyError" 135),(.type (SL.s1688129525768580628x8))⟩,⟨(kh P "ModuleNotFoundError"),(.str "ModuleNotFoundError" 136),(.type (SL.s1031832959479892071x19))⟩,⟨(kh P "NotImplementedError"),(.str "NotImplementedError" 137),(.type (SL.s8991790508128307865x19))⟩,⟨(kh P "PythonFinalizationError"),(.str "PythonFinalizationError" 138),(.type (SL.s14539662485746970245x23))⟩,⟨(kh P "RecursionError"),(.str "RecursionError" 139),(.type (SL.s11643622729373238714x14))⟩,⟨(kh P "UnboundLocalError"),(.str "UnboundLocalError" 140),(.type (SL.s3386828779285465597x17))⟩,⟨(kh P "UnicodeError"),(.str "UnicodeError" 141),(.type (SL.s13042696260734638735x12))⟩,⟨(kh P "BrokenPipeError"),(.str "BrokenPipeError" 142),(.type (SL.s18239426817015966623x15))⟩,⟨(kh P "ConnectionAbortedError"),(.str "ConnectionAbortedError" 143),(.type (SL.s1270395311379034370x22))⟩,⟨(kh P "ConnectionRefusedError"),(.str "ConnectionRefusedError" 144),(.type (SL.s10696252587037064777x22))⟩,⟨(kh P "ConnectionResetError"),(.str "ConnectionResetError" 145),(.type (SL.s7852717498200857586x20))⟩,⟨(kh P "TabError"),(.str "TabError" 146),(.type (SL.s6377248116197321094x8))⟩,⟨(kh P "UnicodeDecodeError"),(.str "UnicodeDecodeError" 147),(.type (SL.s3834378056692298002x18))⟩,⟨(kh P "UnicodeEncodeError"),(.str "UnicodeEncodeError" 148),(.type (SL.s17586630440231065808x18))⟩,⟨(kh P "UnicodeTranslateError"),(.str "UnicodeTranslateError" 149),(.type (SL.s15234114252648025395x21))⟩,⟨(kh P "ExceptionGroup"),(.str "ExceptionGroup" 150),(.type (SL.s8496462677383758984x14))⟩,⟨(kh P "EnvironmentError"),(.str "EnvironmentError" 151),(.type t89)⟩,⟨(kh P "IOError"),(.str "IOError" 152),(.type t89)⟩,⟨(kh P "open"),(.str "open" 153),(.builtin (SL.s16789243406116112673x4))⟩,⟨(kh P "quit"),(.str "quit" 154),(.builtin (SL.s14400166428656793546x20))⟩,⟨(kh P "exit"),(.str "exit" 155),(.builtin (SL.s5857708277339239366x20))⟩,⟨(kh P qPz),(.str qPz 156),(.builtin (Lz "builtins.copyright#opaque"))⟩,⟨(kh P "credits"),(.str "credits" 157),(.builtin (Lz "builtins.credits#opaque"))⟩,⟨(kh P "license"),(.str "license" 158),(.builtin (Lz "builtins.license#opaque"))⟩,⟨(kh P "help"),(.str "help" 159),(.builtin (SL.s7804999707787243718x20))⟩] 159),#[]⟩
noncomputable def o1 (P:Params):Obj:=⟨(.type t0),none,(.dict #[⟨(kh P s1),(.str s1 162),(.ref 4)⟩,⟨(kh P qPy),(.str qPy 163),(.ref 5)⟩,⟨(kh P vC),(.str vC 244),(.ref 12)⟩] 3),#[]⟩
noncomputable def o2 (P:Params):Obj:=⟨.none,none,(.dict #[⟨(kh P ⟨⟨[105,109,112,111,114,116,46,108,111,97,100,101,100,46,95,115,114,101]⟩⟩),(.str ⟨⟨[105,109,112,111,114,116,46,108,111,97,100,101,100,46,95,115,114,101]⟩⟩ 183),(.bool true)⟩,⟨(kh P "class._frozen_importlib.BuiltinImporter"),(.str "class._frozen_importlib.BuiltinImporter" 185),(.ref 14)⟩,⟨(kh P ⟨⟨[119,97,116,99,104,101,100,46,105,109,112,111,114,116]⟩⟩),(.str ⟨⟨[119,97,116,99,104,101,100,46,105,109,112,111,114,116]⟩⟩ 206),(.ref 18)⟩,⟨(kh P "class._frozen_importlib.ModuleSpec"),(.str "class._frozen_importlib.ModuleSpec" 216),(.ref 22)⟩,⟨(kh P "sys.modules.booked-epoch"),(.str "sys.modules.booked-epoch" 245),i3⟩,⟨(kh P ⟨⟨[105,109,112,111,114,116,46,108,97,116,101,114,45,108,97,105,100,46,95,115,114,101]⟩⟩),(.str ⟨⟨[105,109,112,111,114,116,46,108,97,116,101,114,45,108,97,105,100,46,95,115,114,101]⟩⟩ 270),(.bool true)⟩,⟨(kh P "watched.library"),(.str "watched.library" 272),(.ref 27)⟩,⟨(kh P "watched.library-objects"),(.str "watched.library-objects" 0),(.str ⟨⟨[12]⟩⟩ 0)⟩,⟨(kh P "watched.library-deep._sre"),(.str "watched.library-deep._sre" 273),(.str ⟨⟨[4,0,0,11,4,0,0,11,4,0,0,3,4,0,0,11,8,4,100,105,99,116,2]⟩⟩ 0)⟩] 9),#[]⟩
noncomputable def o3 (P:Params):Obj:=⟨(.type t0),none,(.dict #[⟨(kh P s0),(.str s0 165),(.str qPy 164)⟩,⟨(kh P s2),(.str s2 166),.none⟩,⟨(kh P s3),(.str s3 167),.none⟩,⟨(kh P s4),(.str s4 168),(.builtin qGr)⟩,⟨(kh P s5),(.str s5 169),.none⟩,⟨(kh P wY),(.str wY 170),(.ref 6)⟩,⟨(kh P wX),(.str wX 171),(.ref 4)⟩,⟨(kh P wW),(.str wW 173),(.str qO 172)⟩,⟨(kh P wV),(.str wV 174),.none⟩,⟨(kh P vC),(.str vC 275),(.ref 12)⟩] 10),#[]⟩
noncomputable def o4:Obj:=⟨(.type zHf),(some 0),.plain,#[]⟩
noncomputable def o5:Obj:=⟨(.type zHf),(some 3),.plain,#[]⟩
noncomputable def o6:Obj:=⟨(.type t0),none,(.dict #[] 0),#[]⟩
noncomputable def o7:Obj:=⟨(.type t71),none,(.seq #[] 0),#[]⟩
noncomputable def o8:Obj:=⟨.none,none,(.fields #[]),#[]⟩
noncomputable def o9:Obj:=⟨(.type xY),none,(.fields #[(.str zBc 176),(.str zBc 177),(.str qO 178),i1,i0,i0,i0,i0,(.ref 7),(.bool false),(Iz 175),(.ref 8),.none,.none,.none,.none,(Iz 179),i1,(.str qO 180)]),#[]⟩
noncomputable def o10:Obj:=⟨(.type qJm),none,.plain,#[(some (.ref 9)),(some (.ref 3)),(some (.ref 3)),none,(some (.str qPy 164)),none,(some (.ref 0))]⟩
noncomputable def o11 (P:Params):Obj:=⟨(.type t0),none,(.dict #[⟨(kh P s0),(.str s0 247),(.str vC 246)⟩,⟨(kh P s2),(.str s2 248),.none⟩,⟨(kh P s3),(.str s3 250),(.str zBb 249)⟩,⟨(kh P s4),(.str s4 251),(.builtin (Lz "off-the-table:_sre.__loader__:shared#opaque"))⟩,⟨(kh P s5),(.str s5 252),(.builtin (Lz "off-the-table:_sre.__spec__:shared#opaque"))⟩,⟨(kh P s16),(.str s16 253),(.builtin (SL.s492968859115322481x12))⟩,⟨(kh P zBa),(.str zBa 254),(.builtin (Lz "off-the-table:_sre.template:shared#opaque"))⟩,⟨(kh P zAz),(.str zAz 255),(.builtin (Lz "off-the-table:_sre.getcodesize:shared#opaque"))⟩,⟨(kh P zAy),(.str zAy 256),(.builtin (Lz "off-the-table:_sre.ascii_iscased:shared#opaque"))⟩,⟨(kh P zAx),(.str zAx 257),(.builtin (Lz "off-the-table:_sre.unicode_iscased:shared#opaque"))⟩,⟨(kh P zAw),(.str zAw 258),(.builtin (Lz "off-the-table:_sre.ascii_tolower:shared#opaque"))⟩,⟨(kh P zAv),(.str zAv 259),(.builtin (Lz "off-the-table:_sre.unicode_tolower:shared#opaque"))⟩,⟨(kh P zAu),(.str zAu 261),(Jz 20230612 260)⟩,⟨(kh P zAt),(.str zAt 263),(Jz 4 262)⟩,⟨(kh P zAs),(.str zAs 265),(Jz 4294967295 264)⟩,⟨(kh P zAr),(.str zAr 267),(Jz 1073741823 266)⟩,⟨(kh P qPz),(.str qPz 269),(.str " SRE 2.2.2 Copyright (c) 1997-2002 by Secret Labs AB " 268)⟩] 17),#[]⟩
noncomputable def o12:Obj:=⟨(.type zHf),(some 11),.plain,#[]⟩
noncomputable def o13 (P:Params):Obj:=⟨(.type t0),none,(.dict #[⟨(kh P qAn),(.str qAn 189),(.str "_frozen_importlib" 186)⟩,⟨(kh P qAm),(.str qAm 190),(Jz 971 187)⟩,⟨(kh P s2),(.str s2 191),(.builtin (Lz "_frozen_importlib.BuiltinImporter.__doc__:str#opaque"))⟩,⟨(kh P "_ORIGIN"),(.str "_ORIGIN" 192),(.str "built-in" 188)⟩,⟨(kh P "find_spec"),(.str "find_spec" 193),(.builtin (Lz "_frozen_importlib.BuiltinImporter.find_spec#opaque"))⟩,⟨(kh P "create_module"),(.str "create_module" 194),(.builtin (Lz "_frozen_importlib.BuiltinImporter.create_module#opaque"))⟩,⟨(kh P "exec_module"),(.str "exec_module" 195),(.builtin (Lz "_frozen_importlib.BuiltinImporter.exec_module#opaque"))⟩,⟨(kh P "get_code"),(.str "get_code" 196),(.builtin (Lz "_frozen_importlib.BuiltinImporter.get_code#opaque"))⟩,⟨(kh P "get_source"),(.str "get_source" 197),(.builtin (Lz "_frozen_importlib.BuiltinImporter.get_source#opaque"))⟩,⟨(kh P "is_package"),(.str "is_package" 198),(.builtin (Lz "_frozen_importlib.BuiltinImporter.is_package#opaque"))⟩,⟨(kh P "load_module"),(.str "load_module" 199),(.builtin (Lz "_frozen_importlib.BuiltinImporter.load_module#opaque"))⟩,⟨(kh P qAl),(.str qAl 200),(.ref 15)⟩,⟨(kh P qAk),(.str qAk 202),(.ref 16)⟩,⟨(kh P qAj),(.str qAj 204),(.ref 17)⟩] 14),#[]⟩
noncomputable def o14:Obj:=⟨(.type t72),none,(.cls ⟨"BuiltinImporter", [(.type t63)],[(.ref 14),(.type t63)],13,"BuiltinImporter", true,[],[],false,none,false⟩),#[]⟩
noncomputable def o15:Obj:=⟨(.type qGq),none,(.fields #[(.str qAk 201),(.ref 14),(.builtin qZu),(.builtin qZt)]),#[]⟩
noncomputable def o16:Obj:=⟨(.type qGq),none,(.fields #[(.str qAj 203),(.ref 14),(.builtin qZs),.none]),#[]⟩
noncomputable def o17:Obj:=⟨.none,none,(.seq #[i13,(.str ⟨⟨[6,189,10,95,95,109,111,100,117,108,101,95,95,6,186,17,95,102,114,111,122,101,110,95,105,109,112,111,114,116,108,105,98,6,190,15,95,95,102,105,114,115,116,108,105,110,101,110,111,95,95,4,187,0,971,6,191,7,95,95,100,111,99,95,95,9,52,95,102,114,111,122,101,110,95,105,109,112,111,114,116,108,105,98,46,66,117,105,108,116,105,110,73,109,112,111,114,116,101,114,46,95,95,100,111,99,95,95,58,115,116,114,35,111,112,97,113,117,101,6,192,7,95,79,82,73,71,73,78,6,188,8,98,117,105,108,116,45,105,110,6,193,9,102,105,110,100,95,115,112,101,99,9,50,95,102,114,111,122,101,110,95,105,109,112,111,114,116,108,105,98,46,66,117,105,108,116,105,110,73,109,112,111,114,116,101,114,46,102,105,110,100,95,115,112,101,99,35,111,112,97,113,117,101,6,194,13,99,114,101,97,116,101,95,109,111,100,117,108,101,9,54,95,102,114,111,122,101,110,95,105,109,112,111,114,116,108,105,98,46,66,117,105,108,116,105,110,73,109,112,111,114,116,101,114,46,99,114,101,97,116,101,95,109,111,100,117,108,101,35,111,112,97,113,117,101,6,195,11,101,120,101,99,95,109,111,100,117,108,101,9,52,95,102,114,111,122,101,110,95,105,109,112,111,114,116,108,105,98,46,66,117,105,108,116,105,110,73,109,112,111,114,116,101,114,46,101,120,101,99,95,109,111,100,117,108,101,35,111,112,97,113,117,101,6,196,8,103,101,116,95,99,111,100,101,9,49,95,102,114,111,122,101,110,95,105,109,112,111,114,116,108,105,98,46,66,117,105,108,116,105,110,73,109,112,111,114,116,101,114,46,103,101,116,95,99,111,100,101,35,111,112,97,113,117,101,6,197,10,103,101,116,95,115,111,117,114,99,101,9,51,95,102,114,111,122,101,110,95,105,109,112,111,114,116,108,105,98,46,66,117,105,108,116,105,110,73,109,112,111,114,116,101,114,46,103,101,116,95,115,111,117,114,99,101,35,111,112,97,113,117,101,6,198,10,105,115,95,112,97,99,107,97,103,101,9,51,95,102,114,111,122,101,110,95,105,109,112,111,114,116,108,105,98,46,66,117,105,108,116,105,110,73,109,112,111,114,116,101,114,46,105,115,95,112,97,99,107,97,103,101,35,111,112,97,113,117,101,6,199,11,108,111,97,100,95,109,111,100,117,108,101,9,52,95,102,114,111,122,101,110,95,105,109,112,111,114,116,108,105,98,46,66,117,105,108,116,105,110,73,109,112,111,114,116,101,114,46,108,111,97,100,95,109,111,100,117,108,101,35,111,112,97,113,117,101,6,200,21,95,95,115,116,97,116,105,99,95,97,116,116,114,105,98,117,116,101,115,95,95,4,0,0,15,6,202,8,95,95,100,105,99,116,95,95,4,0,0,16,6,204,11,95,95,119,101,97,107,114,101,102,95,95,4,0,0,17]⟩⟩ 0),(.bool true),(.bool true),(.str zBb 205),i21,(.str ⟨⟨[6,227,10,95,95,109,111,100,117,108,101,95,95,6,217,17,95,102,114,111,122,101,110,95,105,109,112,111,114,116,108,105,98,6,228,15,95,95,102,105,114,115,116,108,105,110,101,110,111,95,95,4,218,0,562,6,229,7,95,95,100,111,99,95,95,9,47,95,102,114,111,122,101,110,95,105,109,112,111,114,116,108,105,98,46,77,111,100,117,108,101,83,112,101,99,46,95,95,100,111,99,95,95,58,115,116,114,35,111,112,97,113,117,101,6,230,8,95,95,105,110,105,116,95,95,9,44,95,102,114,111,122,101,110,95,105,109,112,111,114,116,108,105,98,46,77,111,100,117,108,101,83,112,101,99,46,95,95,105,110,105,116,95,95,35,111,112,97,113,117,101,6,231,8,95,95,114,101,112,114,95,95,9,44,95,102,114,111,122,101,110,95,105,109,112,111,114,116,108,105,98,46,77,111,100,117,108,101,83,112,101,99,46,95,95,114,101,112,114,95,95,35,111,112,97,113,117,101,6,232,6,95,95,101,113,95,95,9,42,95,102,114,111,122,101,110,95,105,109,112,111,114,116,108,105,98,46,77,111,100,117,108,101,83,112,101,99,46,95,95,101,113,95,95,35,111,112,97,113,117,101,6,233,6,99,97,99,104,101,100,9,42,95,102,114,111,122,101,110,95,105,109,112,111,114,116,108,105,98,46,77,111,100,117,108,101,83,112,101,99,46,99,97,99,104,101,100,35,111,112,97,113,117,101,6,234,6,112,97,114,101,110,116,9,42,95,102,114,111,122,101,110,95,105,109,112,111,114,116,108,105,98,46,77,111,100,117,108,101,83,112,101,99,46,112,97,114,101,110,116,35,111,112,97,113,117,101,6,235,12,104,97,115,95,108,111,99,97,116,105,111,110,9,48,95,102,114,111,122,101,110,95,105,109,112,111,114,116,108,105,98,46,77,111,100,117,108,101,83,112,101,99,46,104,97,115,95,108,111,99,97,116,105,111,110,35,111,112,97,113,117,101,6,236,21,95,95,115,116,97,116,105,99,95,97,116,116,114,105,98,117,116,101,115,95,95,4,0,0,23,6,238,8,95,95,100,105,99,116,95,95,4,0,0,24,6,240,11,95,95,119,101,97,107,114,101,102,95,95,4,0,0,25,6,241,8,95,95,104,97,115,104,95,95,0]⟩⟩ 0),(.bool true),(.bool true),(.str zBb 242)] 1),#[]⟩
noncomputable def o18:Obj:=⟨(.type t61),none,(.seq #[] 0),#[]⟩
noncomputable def o19 (P:Params):Obj:=⟨(.type t0),none,(.dict #[⟨(kh P "name"),(.str "name" 208),(.str vC 207)⟩,⟨(kh P "loader"),(.str "loader" 209),(.ref 14)⟩,⟨(kh P "origin"),(.str "origin" 210),(.str "built-in" 184)⟩,⟨(kh P "loader_state"),(.str "loader_state" 211),.none⟩,⟨(kh P "submodule_search_locations"),(.str "submodule_search_locations" 212),.none⟩,⟨(kh P "_uninitialized_submodules"),(.str "_uninitialized_submodules" 213),(.ref 19)⟩,⟨(kh P "_set_fileattr"),(.str "_set_fileattr" 214),(.bool false)⟩,⟨(kh P "_cached"),(.str "_cached" 215),.none⟩,⟨(kh P "_initializing"),(.str "_initializing" 243),(.bool false)⟩] 9),#[]⟩
noncomputable def o20 (P:Params):Obj:=⟨(.type t0),none,(.dict #[⟨(kh P qAn),(.str qAn 227),(.str "_frozen_importlib" 217)⟩,⟨(kh P qAm),(.str qAm 228),(Jz 562 218)⟩,⟨(kh P s2),(.str s2 229),(.builtin (Lz "_frozen_importlib.ModuleSpec.__doc__:str#opaque"))⟩,⟨(kh P qEu),(.str qEu 230),(.builtin (Lz "_frozen_importlib.ModuleSpec.__init__#opaque"))⟩,⟨(kh P "__repr__"),(.str "__repr__" 231),(.builtin (Lz "_frozen_importlib.ModuleSpec.__repr__#opaque"))⟩,⟨(kh P "__eq__"),(.str "__eq__" 232),(.builtin (Lz "_frozen_importlib.ModuleSpec.__eq__#opaque"))⟩,⟨(kh P "cached"),(.str "cached" 233),(.builtin (Lz "_frozen_importlib.ModuleSpec.cached#opaque"))⟩,⟨(kh P "parent"),(.str "parent" 234),(.builtin (Lz "_frozen_importlib.ModuleSpec.parent#opaque"))⟩,⟨(kh P "has_location"),(.str "has_location" 235),(.builtin (Lz "_frozen_importlib.ModuleSpec.has_location#opaque"))⟩,⟨(kh P qAl),(.str qAl 236),(.ref 23)⟩,⟨(kh P qAk),(.str qAk 238),(.ref 24)⟩,⟨(kh P qAj),(.str qAj 240),(.ref 25)⟩,⟨(kh P "__hash__"),(.str "__hash__" 241),.none⟩] 13),#[]⟩
noncomputable def o21:Obj:=⟨(.type t72),none,(.cls ⟨"ModuleSpec", [(.type t63)],[(.ref 22),(.type t63)],21,"ModuleSpec", true,[],[],false,none,false⟩),#[]⟩
noncomputable def o22:Obj:=⟨(.type t71),none,(.seq #[(.str "_cached" 219),(.str "_set_fileattr" 220),(.str "_uninitialized_submodules" 221),(.str "loader" 222),(.str "loader_state" 223),(.str "name" 224),(.str "origin" 225),(.str "submodule_search_locations" 226)] 0),#[]⟩
noncomputable def o23:Obj:=⟨(.type qGq),none,(.fields #[(.str qAk 237),(.ref 22),(.builtin qZu),(.builtin qZt)]),#[]⟩
noncomputable def o24:Obj:=⟨(.type qGq),none,(.fields #[(.str qAj 239),(.ref 22),(.builtin qZs),.none]),#[]⟩
noncomputable def o25:Obj:=⟨(.ref 22),(some 20),.plain,#[]⟩
noncomputable def o26:Obj:=⟨.none,none,(.seq #[(Iz 11),(.str ⟨⟨[6,247,8,95,95,110,97,109,101,95,95,6,246,4,95,115,114,101,6,248,7,95,95,100,111,99,95,95,0,6,250,11,95,95,112,97,99,107,97,103,101,95,95,6,249,0,6,251,10,95,95,108,111,97,100,101,114,95,95,4,0,0,14,6,252,8,95,95,115,112,101,99,95,95,4,0,0,26,6,253,7,99,111,109,112,105,108,101,9,12,95,115,114,101,46,99,111,109,112,105,108,101,6,254,8,116,101,109,112,108,97,116,101,9,13,95,115,114,101,46,116,101,109,112,108,97,116,101,6,255,11,103,101,116,99,111,100,101,115,105,122,101,9,16,95,115,114,101,46,103,101,116,99,111,100,101,115,105,122,101,6,256,13,97,115,99,105,105,95,105,115,99,97,115,101,100,9,18,95,115,114,101,46,97,115,99,105,105,95,105,115,99,97,115,101,100,6,257,15,117,110,105,99,111,100,101,95,105,115,99,97,115,101,100,9,20,95,115,114,101,46,117,110,105,99,111,100,101,95,105,115,99,97,115,101,100,6,258,13,97,115,99,105,105,95,116,111,108,111,119,101,114,9,18,95,115,114,101,46,97,115,99,105,105,95,116,111,108,111,119,101,114,6,259,15,117,110,105,99,111,100,101,95,116,111,108,111,119,101,114,9,20,95,115,114,101,46,117,110,105,99,111,100,101,95,116,111,108,111,119,101,114,6,261,5,77,65,71,73,67,4,260,0,20230612,6,263,8,67,79,68,69,83,73,90,69,4,262,0,4,6,265,9,77,65,88,82,69,80,69,65,84,4,264,0,4294967295,6,267,9,77,65,88,71,82,79,85,80,83,4,266,0,1073741823,6,269,9,99,111,112,121,114,105,103,104,116,6,268,53,32,83,82,69,32,50,46,50,46,50,32,67,111,112,121,114,105,103,104,116,32,40,99,41,32,49,57,57,55,45,50,48,48,50,32,98,121,32,83,101,99,114,101,116,32,76,97,98,115,32,65,66,32]⟩⟩ 0),(.bool true),(.bool false),(.str vC 271)] 0),#[]⟩
noncomputable def o27:Obj:=⟨(.type xY),none,(.fields #[(.str zBc 277),(.str zBc 278),(.str qO 279),i1,i0,i0,i0,i0,(.ref 28),(.bool false),kD,(.ref 29),.none,.none,.none,.none,(Iz 280),i1,(.str qO 281)]),#[]⟩
noncomputable def o28:Obj:=⟨(.type qJm),none,.plain,#[(some (.ref 30)),(some (.ref 3)),(some (.ref 3)),none,(some (.str qPy 164)),none,(some (.ref 0))]⟩
noncomputable def o29 (P:Params):Obj:=⟨(.type t0),none,(.dict #[⟨(kh P s0),(.str s0 165),(.str kB 289)⟩,⟨(kh P s2),(.str s2 166),.none⟩,⟨(kh P s3),(.str s3 167),.none⟩,⟨(kh P s4),(.str s4 168),(.builtin qGr)⟩,⟨(kh P s5),(.str s5 169),.none⟩,⟨(kh P wY),(.str wY 170),(.ref 6)⟩,⟨(kh P wX),(.str wX 171),(.ref 4)⟩,⟨(kh P wW),(.str wW 173),(.str qO 172)⟩,⟨(kh P wV),(.str wV 174),.none⟩,⟨(kh P vC),(.str vC 275),(.ref 12)⟩,⟨(kh P vT),(.str vT 288),(.ref 38)⟩,⟨(kh P yF),(.str yF 504),(.ref 43)⟩,⟨(kh P yE),(.str yE 548),(.ref 48)⟩] 13),#[]⟩
noncomputable def o30:Obj:=⟨.none,none,(.fields #[i2,i0,(.ref 37)]),#[]⟩
noncomputable def o31:Obj:=⟨(.type t71),none,(.seq #[(.str "k" 285)] 0),#[]⟩
noncomputable def o32:Obj:=⟨.none,none,(Fz (nth TB 1) vT vT),#[]⟩
noncomputable def o33:Obj:=⟨(.type xY),none,(.fields #[(.str vT 282),(.str vT 283),(.str qO 284),i2,i1,i0,i0,i3,(.ref 32),(.bool true),kD,(.ref 33),.none,(.ref 34),(.ref 35),(.ref 36),(Iz 286),i2,(.str qO 287)]),#[]⟩
noncomputable def o34:Obj:=⟨(.type vK),none,(Gz (nth TB 1) vT vT (.str qPy 164) (.ref 37)),#[]⟩
noncomputable def o35:Obj:=⟨(.type t61),none,(.seq #[(Jz 14 294),(Jz 4 295),(Jz 0 296),(Jz 3 297),(Jz 4294967295 298),(Jz 6 299),(Jz 1 300),(Jz 24 301),(Jz 11 302),(Jz 0 303),(Jz 4294967295 304),(Jz 13 305),(Jz 6 306),(Jz 16 307),(Jz 32 308),(Jz 16 309),(Jz 9 310),(Jz 0 311),(Jz 1 312),(Jz 7 313),(Jz 13 314),(Jz 16 315),(Jz 119 316),(Jz 16 317),(Jz 104 318),(Jz 16 319),(Jz 105 320),(Jz 16 321),(Jz 108 322),(Jz 16 323),(Jz 101 324),(Jz 15 325),(Jz 173 326),(Jz 11 327),(Jz 16 328),(Jz 101 329),(Jz 16 330),(Jz 108 331),(Jz 16 332),(Jz 115 333),(Jz 16 334),(Jz 101 335),(Jz 15 336),(Jz 162 337),(Jz 9 338),(Jz 16 339),(Jz 100 340),(Jz 16 341),(Jz 101 342),(Jz 16 343),(Jz 102 344),(Jz 15 345),(Jz 153 346),(Jz 15 347),(Jz 16 348),(Jz 114 349),(Jz 16 350),(Jz 101 351),(Jz 16 352),(Jz 116 353),(Jz 16 354),(Jz 117 355),(Jz 16 356),(Jz 114 357),(Jz 16 358),(Jz 110 359),(Jz 15 360),(Jz 138 361),(Jz 15 362),(Jz 16 363),(Jz 97 364),(Jz 16 365),(Jz 115 366),(Jz 16 367),(Jz 115 368),(Jz 16 369),(Jz 101 370),(Jz 16 371),(Jz 114 372),(Jz 16 373),(Jz 116 374),(Jz 15 375),(Jz 123 376),(Jz 13 377),(Jz 16 378),(Jz 98 379),(Jz 16 380),(Jz 114 381),(Jz 16 382),(Jz 101 383),(Jz 16 384),(Jz 97 385),(Jz 16 386),(Jz 107 387),(Jz 15 388),(Jz 110 389),(Jz 13 390),(Jz 16 391),(Jz 99 392),(Jz 16 393),(Jz 108 394),(Jz 16 395),(Jz 97 396),(Jz 16 397),(Jz 115 398),(Jz 16 399),(Jz 115 400),(Jz 15 401),(Jz 97 402),(Jz 19 403),(Jz 16 404),(Jz 99 405),(Jz 16 406),(Jz 111 407),(Jz 16 408),(Jz 110 409),(Jz 16 410),(Jz 116 411),(Jz 16 412),(Jz 105 413),(Jz 16 414),(Jz 110 415),(Jz 16 416),(Jz 117 417),(Jz 16 418),(Jz 101 419),(Jz 15 420),(Jz 78 421),(Jz 11 422),(Jz 16 423),(Jz 101 424),(Jz 16 425),(Jz 108 426),(Jz 16 427),(Jz 105 428),(Jz 16 429),(Jz 102 430),(Jz 15 431),(Jz 67 432),(Jz 9 433),(Jz 16 434),(Jz 116 435),(Jz 16 436),(Jz 114 437),(Jz 16 438),(Jz 121 439),(Jz 15 440),(Jz 58 441),(Jz 15 442),(Jz 16 443),(Jz 101 444),(Jz 16 445),(Jz 120 446),(Jz 16 447),(Jz 99 448),(Jz 16 449),(Jz 101 450),(Jz 16 451),(Jz 112 452),(Jz 16 453),(Jz 116 454),(Jz 15 455),(Jz 43 456),(Jz 13 457),(Jz 16 458),(Jz 114 459),(Jz 16 460),(Jz 97 461),(Jz 16 462),(Jz 105 463),(Jz 16 464),(Jz 115 465),(Jz 16 466),(Jz 101 467),(Jz 15 468),(Jz 30 469),(Jz 15 470),(Jz 16 471),(Jz 105 472),(Jz 16 473),(Jz 109 474),(Jz 16 475),(Jz 112 476),(Jz 16 477),(Jz 111 478),(Jz 16 479),(Jz 114 480),(Jz 16 481),(Jz 116 482),(Jz 15 483),(Jz 15 484),(Jz 13 485),(Jz 16 486),(Jz 121 487),(Jz 16 488),(Jz 105 489),(Jz 16 490),(Jz 101 491),(Jz 16 492),(Jz 108 493),(Jz 16 494),(Jz 100 495),(Jz 15 496),(Jz 2 497),(Jz 0 498),(Jz 6 499),(Jz 10 500),(Jz 1 501)] 0),#[]⟩
noncomputable def o36:Obj:=⟨(.type t71),none,(.seq #[.none] 0),#[]⟩
noncomputable def o37:Obj:=⟨(.type t71),none,(.seq #[(Iz 14),i4,i0,i3,qH,(Iz 6),i1,i24,(Iz 11),i0,qH,i13,(Iz 6),i16,(Iz 32),i16,i9,i0,i1,i7,i13,i16,(Iz 119),i16,(Iz 104),i16,(Iz 105),i16,(Iz 108),i16,uN,i15,(Iz 173),(Iz 11),i16,uN,i16,(Iz 108),i16,(Iz 115),i16,uN,i15,(Iz 162),i9,i16,(Iz 100),i16,uN,i16,(Iz 102),i15,(Iz 153),i15,i16,(Iz 114),i16,uN,i16,(Iz 116),i16,(Iz 117),i16,(Iz 114),i16,(Iz 110),i15,(Iz 138),i15,i16,(Iz 97),i16,(Iz 115),i16,(Iz 115),i16,uN,i16,(Iz 114),i16,(Iz 116),i15,(Iz 123),i13,i16,(Iz 98),i16,(Iz 114),i16,uN,i16,(Iz 97),i16,(Iz 107),i15,(Iz 110),i13,i16,(Iz 99),i16,(Iz 108),i16,(Iz 97),i16,(Iz 115),i16,(Iz 115),i15,(Iz 97),(Iz 19),i16,(Iz 99),i16,(Iz 111),i16,(Iz 110),i16,(Iz 116),i16,(Iz 105),i16,(Iz 110),i16,(Iz 117),i16,uN,i15,(Iz 78),(Iz 11),i16,uN,i16,(Iz 108),i16,(Iz 105),i16,(Iz 102),i15,(Iz 67),i9,i16,(Iz 116),i16,(Iz 114),i16,(Iz 121),i15,(Iz 58),i15,i16,uN,i16,(Iz 120),i16,(Iz 99),i16,uN,i16,(Iz 112),i16,(Iz 116),i15,(Iz 43),i13,i16,(Iz 114),i16,(Iz 97),i16,(Iz 105),i16,(Iz 115),i16,uN,i15,(Iz 30),i15,i16,(Iz 105),i16,(Iz 109),i16,(Iz 112),i16,(Iz 111),i16,(Iz 114),i16,(Iz 116),i15,i15,i13,i16,(Iz 121),i16,(Iz 105),i16,uN,i16,(Iz 108),i16,(Iz 100),i15,i2,i0,(Iz 6),(Iz 10),i1] 0),#[]⟩
noncomputable def o38:Obj:=⟨(.type qZr),none,(.fields #[(.str ⟨⟨[10,32,32,32,32,94,10,32,32,32,32,91,32,92,116,93,42,10,32,32,32,32,40,63,58,32,119,104,105,108,101,10,32,32,32,32,124,32,32,32,101,108,115,101,10,32,32,32,32,124,32,32,32,100,101,102,10,32,32,32,32,124,32,32,32,114,101,116,117,114,110,10,32,32,32,32,124,32,32,32,97,115,115,101,114,116,10,32,32,32,32,124,32,32,32,98,114,101,97,107,10,32,32,32,32,124,32,32,32,99,108,97,115,115,10,32,32,32,32,124,32,32,32,99,111,110,116,105,110,117,101,10,32,32,32,32,124,32,32,32,101,108,105,102,10,32,32,32,32,124,32,32,32,116,114,121,10,32,32,32,32,124,32,32,32,101,120,99,101,112,116,10,32,32,32,32,124,32,32,32,114,97,105,115,101,10,32,32,32,32,124,32,32,32,105,109,112,111,114,116,10,32,32,32,32,124,32,32,32,121,105,101,108,100,10,32,32,32,32,41,10,32,32,32,32,92,98,10]⟩⟩ 292),(Jz 104 503),i0,.none,.none,(.ref 42),i0]),#[]⟩
noncomputable def o39:Obj:=⟨(.type t61),none,(.seq #[(Jz 14 508),(Jz 4 509),(Jz 0 510),(Jz 1 511),(Jz 4294967295 512),(Jz 24 513),(Jz 11 514),(Jz 0 515),(Jz 4294967295 516),(Jz 13 517),(Jz 6 518),(Jz 16 519),(Jz 32 520),(Jz 16 521),(Jz 9 522),(Jz 0 523),(Jz 1 524),(Jz 23 525),(Jz 16 526),(Jz 0 527),(Jz 1 528),(Jz 16 529),(Jz 35 530),(Jz 13 531),(Jz 4 532),(Jz 8 533),(Jz 13 534),(Jz 0 535),(Jz 24 536),(Jz 5 537),(Jz 0 538),(Jz 4294967295 539),(Jz 2 540),(Jz 1 541),(Jz 18 542),(Jz 16 543),(Jz 10 544),(Jz 1 545)] 0),#[]⟩
noncomputable def o40:Obj:=⟨(.type t71),none,(.seq #[(Iz 14),i4,i0,i1,qH,i24,(Iz 11),i0,qH,i13,(Iz 6),i16,(Iz 32),i16,i9,i0,i1,i23,i16,i0,i1,i16,(Iz 35),i13,i4,(Iz 8),i13,i0,i24,(Iz 5),i0,qH,i2,i1,(Iz 18),i16,(Iz 10),i1] 0),#[]⟩
noncomputable def o41:Obj:=⟨(.type qZr),none,(.fields #[(.str ⟨⟨[10,32,32,32,32,91,32,92,116,93,42,10,32,32,32,32,40,63,58,32,92,35,32,92,83,32,46,42,32,41,63,10,32,32,32,32,92,110,10]⟩⟩ 506),(Jz 96 547),i0,.none,.none,(.ref 47),i0]),#[]⟩
noncomputable def o42 (P:Params):Obj:=⟨(.type t0),none,(.dict #[⟨(kh P s0),(.str s0 165),(.str kB 289)⟩,⟨(kh P s2),(.str s2 166),.none⟩,⟨(kh P s3),(.str s3 167),.none⟩,⟨(kh P s4),(.str s4 168),(.builtin qGr)⟩,⟨(kh P s5),(.str s5 169),.none⟩,⟨(kh P wY),(.str wY 170),(.ref 6)⟩,⟨(kh P wX),(.str wX 171),(.ref 4)⟩,⟨(kh P wW),(.str wW 173),(.str qO 172)⟩,⟨(kh P wV),(.str wV 174),.none⟩,⟨(kh P vC),(.str vC 275),(.ref 12)⟩,⟨(kh P vT),(.str vT 288),(.ref 38)⟩,⟨(kh P yF),(.str yF 504),(.ref 43)⟩,⟨(kh P yE),(.str yE 548),(.ref 48)⟩,⟨(kh P uI),(.str uI 823),(.ref 53)⟩,⟨(kh P uH),(.str uH 853),(.ref 58)⟩] 15),#[]⟩
noncomputable def o43:Obj:=⟨(.type t61),none,(.seq #[(Jz 14 552),(Jz 9 553),(Jz 4 554),(Jz 1 555),(Jz 4294967295 556),(Jz 16 557),(Jz 34 558),(Jz 16 559),(Jz 39 560),(Jz 0 561),(Jz 7 562),(Jz 72 563),(Jz 16 564),(Jz 34 565),(Jz 16 566),(Jz 34 567),(Jz 16 568),(Jz 34 569),(Jz 24 570),(Jz 12 571),(Jz 0 572),(Jz 4294967295 573),(Jz 13 574),(Jz 7 575),(Jz 21 576),(Jz 16 577),(Jz 34 578),(Jz 16 579),(Jz 92 580),(Jz 0 581),(Jz 1 582),(Jz 23 583),(Jz 37 584),(Jz 0 585),(Jz 4294967295 586),(Jz 7 587),(Jz 6 588),(Jz 16 589),(Jz 92 590),(Jz 3 591),(Jz 15 592),(Jz 15 593),(Jz 13 594),(Jz 16 595),(Jz 34 596),(Jz 5 597),(Jz 7 598),(Jz 0 599),(Jz 16 600),(Jz 34 601),(Jz 16 602),(Jz 34 603),(Jz 1 604),(Jz 15 605),(Jz 2 606),(Jz 0 607),(Jz 24 608),(Jz 12 609),(Jz 0 610),(Jz 4294967295 611),(Jz 13 612),(Jz 7 613),(Jz 21 614),(Jz 16 615),(Jz 34 616),(Jz 16 617),(Jz 92 618),(Jz 0 619),(Jz 1 620),(Jz 18 621),(Jz 23 622),(Jz 9 623),(Jz 0 624),(Jz 1 625),(Jz 16 626),(Jz 34 627),(Jz 16 628),(Jz 34 629),(Jz 16 630),(Jz 34 631),(Jz 18 632),(Jz 15 633),(Jz 186 634),(Jz 56 635),(Jz 16 636),(Jz 34 637),(Jz 24 638),(Jz 17 639),(Jz 0 640),(Jz 4294967295 641),(Jz 13 642),(Jz 12 643),(Jz 21 644),(Jz 9 645),(Jz 1024 646),(Jz 4 647),(Jz 268435456 648),(Jz 0 649),(Jz 0 650),(Jz 0 651),(Jz 0 652),(Jz 0 653),(Jz 0 654),(Jz 1 655),(Jz 23 656),(Jz 24 657),(Jz 0 658),(Jz 4294967295 659),(Jz 16 660),(Jz 92 661),(Jz 3 662),(Jz 24 663),(Jz 17 664),(Jz 0 665),(Jz 4294967295 666),(Jz 13 667),(Jz 12 668),(Jz 21 669),(Jz 9 670),(Jz 1024 671),(Jz 4 672),(Jz 268435456 673),(Jz 0 674),(Jz 0 675),(Jz 0 676),(Jz 0 677),(Jz 0 678),(Jz 0 679),(Jz 1 680),(Jz 18 681),(Jz 24 682),(Jz 6 683),(Jz 0 684),(Jz 1 685),(Jz 16 686),(Jz 34 687),(Jz 1 688),(Jz 15 689),(Jz 130 690),(Jz 72 691),(Jz 16 692),(Jz 39 693),(Jz 16 694),(Jz 39 695),(Jz 16 696),(Jz 39 697),(Jz 24 698),(Jz 12 699),(Jz 0 700),(Jz 4294967295 701),(Jz 13 702),(Jz 7 703),(Jz 21 704),(Jz 16 705),(Jz 39 706),(Jz 16 707),(Jz 92 708),(Jz 0 709),(Jz 1 710),(Jz 23 711),(Jz 37 712),(Jz 0 713),(Jz 4294967295 714),(Jz 7 715),(Jz 6 716),(Jz 16 717),(Jz 92 718),(Jz 3 719),(Jz 15 720),(Jz 15 721),(Jz 13 722),(Jz 16 723),(Jz 39 724),(Jz 5 725),(Jz 7 726),(Jz 0 727),(Jz 16 728),(Jz 39 729),(Jz 16 730),(Jz 39 731),(Jz 1 732),(Jz 15 733),(Jz 2 734),(Jz 0 735),(Jz 24 736),(Jz 12 737),(Jz 0 738),(Jz 4294967295 739),(Jz 13 740),(Jz 7 741),(Jz 21 742),(Jz 16 743),(Jz 39 744),(Jz 16 745),(Jz 92 746),(Jz 0 747),(Jz 1 748),(Jz 18 749),(Jz 23 750),(Jz 9 751),(Jz 0 752),(Jz 1 753),(Jz 16 754),(Jz 39 755),(Jz 16 756),(Jz 39 757),(Jz 16 758),(Jz 39 759),(Jz 18 760),(Jz 15 761),(Jz 58 762),(Jz 56 763),(Jz 16 764),(Jz 39 765),(Jz 24 766),(Jz 17 767),(Jz 0 768),(Jz 4294967295 769),(Jz 13 770),(Jz 12 771),(Jz 21 772),(Jz 9 773),(Jz 1024 774),(Jz 128 775),(Jz 268435456 776),(Jz 0 777),(Jz 0 778),(Jz 0 779),(Jz 0 780),(Jz 0 781),(Jz 0 782),(Jz 1 783),(Jz 23 784),(Jz 24 785),(Jz 0 786),(Jz 4294967295 787),(Jz 16 788),(Jz 92 789),(Jz 3 790),(Jz 24 791),(Jz 17 792),(Jz 0 793),(Jz 4294967295 794),(Jz 13 795),(Jz 12 796),(Jz 21 797),(Jz 9 798),(Jz 1024 799),(Jz 128 800),(Jz 268435456 801),(Jz 0 802),(Jz 0 803),(Jz 0 804),(Jz 0 805),(Jz 0 806),(Jz 0 807),(Jz 1 808),(Jz 18 809),(Jz 24 810),(Jz 6 811),(Jz 0 812),(Jz 1 813),(Jz 16 814),(Jz 39 815),(Jz 1 816),(Jz 15 817),(Jz 2 818),(Jz 0 819),(Jz 1 820)] 0),#[]⟩
noncomputable def o44:Obj:=⟨(.type t71),none,(.seq #[(Iz 14),i9,i4,i1,qH,i16,i34,i16,i39,i0,i7,(Iz 72),i16,i34,i16,i34,i16,i34,i24,i12,i0,qH,i13,i7,i21,i16,i34,i16,(Iz 92),i0,i1,i23,(Iz 37),i0,qH,i7,(Iz 6),i16,(Iz 92),i3,i15,i15,i13,i16,i34,(Iz 5),i7,i0,i16,i34,i16,i34,i1,i15,i2,i0,i24,i12,i0,qH,i13,i7,i21,i16,i34,i16,(Iz 92),i0,i1,(Iz 18),i23,i9,i0,i1,i16,i34,i16,i34,i16,i34,(Iz 18),i15,(Iz 186),(Iz 56),i16,i34,i24,(Iz 17),i0,qH,i13,i12,i21,i9,(Iz 1024),i4,(Iz 268435456),i0,i0,i0,i0,i0,i0,i1,i23,i24,i0,qH,i16,(Iz 92),i3,i24,(Iz 17),i0,qH,i13,i12,i21,i9,(Iz 1024),i4,(Iz 268435456),i0,i0,i0,i0,i0,i0,i1,(Iz 18),i24,(Iz 6),i0,i1,i16,i34,i1,i15,(Iz 130),(Iz 72),i16,i39,i16,i39,i16,i39,i24,i12,i0,qH,i13,i7,i21,i16,i39,i16,(Iz 92),i0,i1,i23,(Iz 37),i0,qH,i7,(Iz 6),i16,(Iz 92),i3,i15,i15,i13,i16,i39,(Iz 5),i7,i0,i16,i39,i16,i39,i1,i15,i2,i0,i24,i12,i0,qH,i13,i7,i21,i16,i39,i16,(Iz 92),i0,i1,(Iz 18),i23,i9,i0,i1,i16,i39,i16,i39,i16,i39,(Iz 18),i15,(Iz 58),(Iz 56),i16,i39,i24,(Iz 17),i0,qH,i13,i12,i21,i9,(Iz 1024),(Iz 128),(Iz 268435456),i0,i0,i0,i0,i0,i0,i1,i23,i24,i0,qH,i16,(Iz 92),i3,i24,(Iz 17),i0,qH,i13,i12,i21,i9,(Iz 1024),(Iz 128),(Iz 268435456),i0,i0,i0,i0,i0,i0,i1,(Iz 18),i24,(Iz 6),i0,i1,i16,i39,i1,i15,i2,i0,i1] 0),#[]⟩
noncomputable def o45:Obj:=⟨(.type qZr),none,(.fields #[(.str ⟨⟨[10,32,32,32,32,92,34,34,34,32,91,94,34,92,92,93,42,32,40,63,58,10,32,32,32,32,32,32,32,32,32,32,32,32,32,32,32,32,32,32,32,32,32,40,63,58,32,92,92,46,32,124,32,34,40,63,33,34,34,41,32,41,10,32,32,32,32,32,32,32,32,32,32,32,32,32,32,32,32,32,32,32,32,32,91,94,34,92,92,93,42,10,32,32,32,32,32,32,32,32,32,32,32,32,32,32,32,32,32,41,42,10,32,32,32,32,40,63,58,32,92,34,34,34,32,41,63,10,10,124,32,32,32,34,32,91,94,34,92,92,92,110,93,42,32,40,63,58,32,92,92,46,32,91,94,34,92,92,92,110,93,42,32,41,42,32,34,63,10,10,124,32,32,32,39,39,39,32,91,94,39,92,92,93,42,32,40,63,58,10,32,32,32,32,32,32,32,32,32,32,32,32,32,32,32,32,32,32,32,40,63,58,32,92,92,46,32,124,32,39,40,63,33,39,39,41,32,41,10,32,32,32,32,32,32,32,32,32,32,32,32,32,32,32,32,32,32,32,91,94,39,92,92,93,42,10,32,32,32,32,32,32,32,32,32,32,32,32,32,32,32,32,41,42,10,32,32,32,32,40,63,58,32,39,39,39,32,41,63,10,10,124,32,32,32,39,32,91,94,39,92,92,92,110,93,42,32,40,63,58,32,92,92,46,32,91,94,39,92,92,92,110,93,42,32,41,42,32,39,63,10]⟩⟩ 550),(Jz 112 822),i0,.none,.none,(.ref 52),i0]),#[]⟩
noncomputable def o46:Obj:=⟨(.type t61),none,(.seq #[(Jz 14 827),(Jz 4 828),(Jz 0 829),(Jz 1 830),(Jz 4294967295 831),(Jz 24 832),(Jz 17 833),(Jz 1 834),(Jz 4294967295 835),(Jz 13 836),(Jz 12 837),(Jz 21 838),(Jz 9 839),(Jz 0 840),(Jz 908 841),(Jz 939524096 842),(Jz 671088640 843),(Jz 0 844),(Jz 0 845),(Jz 0 846),(Jz 0 847),(Jz 0 848),(Jz 1 849),(Jz 1 850)] 0),#[]⟩
noncomputable def o47:Obj:=⟨(.type t71),none,(.seq #[(Iz 14),i4,i0,i1,qH,i24,(Iz 17),i1,qH,i13,i12,i21,i9,i0,(Iz 908),(Iz 939524096),(Iz 671088640),i0,i0,i0,i0,i0,i1,i1] 0),#[]⟩
noncomputable def o48:Obj:=⟨(.type qZr),none,(.fields #[(.str ⟨⟨[10,32,32,32,32,91,94,91,92,93,40,41,123,125,35,39,34,92,92,93,43,10]⟩⟩ 825),(Jz 96 852),i0,.none,.none,(.ref 57),i0]),#[]⟩
noncomputable def o49 (P:Params):Obj:=⟨(.type t0),none,(.dict #[⟨(kh P s0),(.str s0 165),(.str kB 289)⟩,⟨(kh P s2),(.str s2 166),.none⟩,⟨(kh P s3),(.str s3 167),.none⟩,⟨(kh P s4),(.str s4 168),(.builtin qGr)⟩,⟨(kh P s5),(.str s5 169),.none⟩,⟨(kh P wY),(.str wY 170),(.ref 6)⟩,⟨(kh P wX),(.str wX 171),(.ref 4)⟩,⟨(kh P wW),(.str wW 173),(.str qO 172)⟩,⟨(kh P wV),(.str wV 174),.none⟩,⟨(kh P vC),(.str vC 275),(.ref 12)⟩,⟨(kh P vT),(.str vT 288),(.ref 38)⟩,⟨(kh P yF),(.str yF 504),(.ref 43)⟩,⟨(kh P yE),(.str yE 548),(.ref 48)⟩,⟨(kh P uI),(.str uI 823),(.ref 53)⟩,⟨(kh P uH),(.str uH 853),(.ref 58)⟩,⟨(kh P qAi),(.str qAi 862),(Jz 0 857)⟩,⟨(kh P qAh),(.str qAh 863),(Jz 1 858)⟩,⟨(kh P qAg),(.str qAg 864),(Jz 2 859)⟩,⟨(kh P qAf),(.str qAf 865),(Jz 3 860)⟩,⟨(kh P qAe),(.str qAe 866),(Jz 4 861)⟩,⟨(kh P qBm),(.str qBm 868),(.ref 63)⟩,⟨(kh P qBl),(.str qBl 870),(.ref 64)⟩,⟨(kh P qBk),(.str qBk 872),(.ref 65)⟩,⟨(kh P qBj),(.str qBj 874),(.ref 66)⟩] 24),#[]⟩
noncomputable def o50:Obj:=⟨(.type t64),none,(.fields #[(Jz 0 855),(Jz 5 854),(Jz 1 856)]),#[]⟩
noncomputable def o51:Obj:=⟨(.type qCr),none,(.fields #[(Iz 5),i0,i1]),#[]⟩
noncomputable def o52:Obj:=⟨(.type t93),none,(.fields #[(.ref 61),.none,.none,.none,(.bool false),.none]),#[]⟩
noncomputable def o53:Obj:=⟨(.type qGp),none,(.fields #[(.builtin (SL.s9858327723941210770x17)),(.ref 43)]),#[]⟩
noncomputable def o54:Obj:=⟨(.type qGp),none,(.fields #[(.builtin zHe),(.ref 48)]),#[]⟩
noncomputable def o55:Obj:=⟨(.type qGp),none,(.fields #[(.builtin zHe),(.ref 53)]),#[]⟩
noncomputable def o56:Obj:=⟨(.type qGp),none,(.fields #[(.builtin zHe),(.ref 58)]),#[]⟩
noncomputable def o57 (P:Params):Obj:=⟨(.type t0),none,(.dict #[⟨(kh P s0),(.str s0 165),(.str kB 289)⟩,⟨(kh P s2),(.str s2 166),.none⟩,⟨(kh P s3),(.str s3 167),.none⟩,⟨(kh P s4),(.str s4 168),(.builtin qGr)⟩,⟨(kh P s5),(.str s5 169),.none⟩,⟨(kh P wY),(.str wY 170),(.ref 6)⟩,⟨(kh P wX),(.str wX 171),(.ref 4)⟩,⟨(kh P wW),(.str wW 173),(.str qO 172)⟩,⟨(kh P wV),(.str wV 174),.none⟩,⟨(kh P vC),(.str vC 275),(.ref 12)⟩,⟨(kh P vT),(.str vT 288),(.ref 38)⟩,⟨(kh P yF),(.str yF 504),(.ref 43)⟩,⟨(kh P yE),(.str yE 548),(.ref 48)⟩,⟨(kh P uI),(.str uI 823),(.ref 53)⟩,⟨(kh P uH),(.str uH 853),(.ref 58)⟩,⟨(kh P qAi),(.str qAi 862),(Jz 0 857)⟩,⟨(kh P qAh),(.str qAh 863),(Jz 1 858)⟩,⟨(kh P qAg),(.str qAg 864),(Jz 2 859)⟩,⟨(kh P qAf),(.str qAf 865),(Jz 3 860)⟩,⟨(kh P qAe),(.str qAe 866),(Jz 4 861)⟩,⟨(kh P qBm),(.str qBm 868),(.ref 63)⟩,⟨(kh P qBl),(.str qBl 870),(.ref 64)⟩,⟨(kh P qBk),(.str qBk 872),(.ref 65)⟩,⟨(kh P qBj),(.str qBj 874),(.ref 66)⟩,⟨(kh P yD),(.str yD 902),(.ref 83)⟩] 25),#[]⟩
noncomputable def o58:Obj:=⟨.none,none,(.fields #[i2,i0,(.ref 37),i15,i0,(.ref 72)]),#[]⟩
noncomputable def o59:Obj:=⟨(.type t71),none,(.seq #[(.type t0)] 0),#[]⟩
noncomputable def o60:Obj:=⟨(.type qGp),none,(.fields #[(.builtin (SL.s10062305145149207511x16)),(.type t72)]),#[]⟩
noncomputable def o61 (P:Params):Obj:=⟨(.type t0),none,(.dict #[⟨(kh P qAn),(.str qAn 882),(.str kB 289)⟩,⟨(kh P zAq),(.str zAq 884),(.str yD 883)⟩,⟨(kh P qAm),(.str qAm 886),(Jz 15 885)⟩,⟨(kh P qKm),(.str qKm 894),(.ref 80)⟩,⟨(kh P qAl),(.str qAl 895),(.ref 81)⟩] 5),#[]⟩
noncomputable def o62:Obj:=⟨.none,none,(.fields #[(Iz 17),i4,(.ref 79)]),#[]⟩
noncomputable def o63:Obj:=⟨(.type xY),none,(.fields #[(.str yD 877),(.str yD 878),(.str qO 879),i15,i0,i0,i0,i0,(.ref 70),(.bool false),kD,(.ref 71),.none,.none,.none,.none,(Iz 880),i15,(.str qO 881)]),#[]⟩
noncomputable def o64:Obj:=⟨(.type qJm),none,.plain,#[(some (.ref 72)),(some (.ref 3)),(some (.ref 69)),none,(some (.str kB 289)),none,(some (.ref 0))]⟩
noncomputable def o65:Obj:=⟨(.type t71),none,(.seq #[(.str yC 890),(.str "key" 891)] 0),#[]⟩
noncomputable def o66:Obj:=⟨.none,none,(Fz (nth (cls (nth TB 12)) 0) qKm "ParseMap.__missing__"),#[]⟩
noncomputable def o67:Obj:=⟨(.type xY),none,(.fields #[(.str qKm 887),(.str "ParseMap.__missing__" 888),(.str qO 889),(Iz 17),i2,i0,i0,i3,(.ref 74),(.bool true),kD,(.ref 75),.none,(.ref 76),(.ref 77),(.ref 78),(Iz 892),(Iz 17),(.str qO 893)]),#[]⟩
noncomputable def o68:Obj:=⟨(.type vK),none,(Gz (nth (cls (nth TB 12)) 0) qKm "ParseMap.__missing__" (.str kB 289) (.ref 79)),#[]⟩
noncomputable def o69 (P:Params):Obj:=⟨(.type t0),none,(.dict #[⟨(kh P qAn),(.str qAn 882),(.str kB 289)⟩,⟨(kh P qAm),(.str qAm 886),(Jz 15 885)⟩,⟨(kh P qKm),(.str qKm 894),(.ref 80)⟩,⟨(kh P qAl),(.str qAl 895),(.ref 81)⟩,⟨(kh P qAk),(.str qAk 897),(.ref 84)⟩,⟨(kh P qAj),(.str qAj 899),(.ref 85)⟩,⟨(kh P s2),(.str s2 900),.none⟩] 4),#[]⟩
noncomputable def o70:Obj:=⟨(.type t72),none,(.cls ⟨yD,[(.type t0)],[(.ref 83),(.type t0),(.type t63)],82,yD,true,[],[],false,none,false⟩),#[(some (.ref 67)),none,(some (.str yD 875)),(some (.str yD 883)),(some (.builtin (SL.s15987600418018006706x12))),(some (.bool true))]⟩
noncomputable def o71:Obj:=⟨(.type qGq),none,(.fields #[(.str qAk 896),(.ref 83),(.builtin qZu),(.builtin qZt)]),#[]⟩
noncomputable def o72:Obj:=⟨(.type qGq),none,(.fields #[(.str qAj 898),(.ref 83),(.builtin qZs),.none]),#[]⟩
noncomputable def o73:Obj:=⟨(.type t70),none,(.fields #[(.ref 83),(.ref 83),(.ref 83)]),#[]⟩
noncomputable def o74:Obj:=⟨(.type qGp),none,(.fields #[(.builtin (SL.s4860613602091757760x24)),(.ref 83)]),#[]⟩
noncomputable def o75:Obj:=⟨(.type qGp),none,(.fields #[(.builtin (SL.s15322075717076897914x13)),(.ref 83)]),#[]⟩
noncomputable def o76:Obj:=⟨(.type t64),none,(.fields #[(Jz 0 905),(Jz 128 904),(Jz 1 906)]),#[]⟩
noncomputable def o94:Obj:=⟨(.type qCr),none,(.fields #[(Iz 128),i0,i1]),#[]⟩
noncomputable def o95 (P:Params):Obj:=⟨(.type t0),none,(.dict #[⟨(kh P s0),(.str s0 165),(.str kB 289)⟩,⟨(kh P s2),(.str s2 166),.none⟩,⟨(kh P s3),(.str s3 167),.none⟩,⟨(kh P s4),(.str s4 168),(.builtin qGr)⟩,⟨(kh P s5),(.str s5 169),.none⟩,⟨(kh P wY),(.str wY 170),(.ref 6)⟩,⟨(kh P wX),(.str wX 171),(.ref 4)⟩,⟨(kh P wW),(.str wW 173),(.str qO 172)⟩,⟨(kh P wV),(.str wV 174),.none⟩,⟨(kh P vC),(.str vC 275),(.ref 12)⟩,⟨(kh P vT),(.str vT 288),(.ref 38)⟩,⟨(kh P yF),(.str yF 504),(.ref 43)⟩,⟨(kh P yE),(.str yE 548),(.ref 48)⟩,⟨(kh P uI),(.str uI 823),(.ref 53)⟩,⟨(kh P uH),(.str uH 853),(.ref 58)⟩,⟨(kh P qAi),(.str qAi 862),(Jz 0 857)⟩,⟨(kh P qAh),(.str qAh 863),(Jz 1 858)⟩,⟨(kh P qAg),(.str qAg 864),(Jz 2 859)⟩,⟨(kh P qAf),(.str qAf 865),(Jz 3 860)⟩,⟨(kh P qAe),(.str qAe 866),(Jz 4 861)⟩,⟨(kh P qBm),(.str qBm 868),(.ref 63)⟩,⟨(kh P qBl),(.str qBl 870),(.ref 64)⟩,⟨(kh P qBk),(.str qBk 872),(.ref 65)⟩,⟨(kh P qBj),(.str qBj 874),(.ref 66)⟩,⟨(kh P yD),(.str yD 902),(.ref 83)⟩,⟨(kh P qKl),(.str qKl 1164),(.ref 91)⟩] 26),#[]⟩
noncomputable def o96:Obj:=⟨(.type t93),none,(.fields #[(.ref 93),.none,.none,.none,(.bool false),.none]),#[]⟩
noncomputable def o99:Obj:=⟨(.type (SL.s13500813778147066322x18)),none,(.fields #[.none,i3]),#[]⟩
noncomputable def qQp:Obj:=⟨(.type xY),none,(.fields #[(.str qAd 1166),(.str qAd 1167),(.str qO 1168),(Iz 20),i1,i0,i0,(Iz 35),(.ref 96),(.bool true),kD,(.ref 97),.none,.none,.none,.none,(Iz 1169),(Iz 20),(.str qO 1170)]),#[]⟩
noncomputable def qQo (P:Params):Obj:=⟨(.type qJm),none,(.dict #[⟨(kh P qPx),(.str qPx 1171),(.ref 95)⟩,⟨(kh P qPw),(.str qPw 1178),(.str "[" 1189)⟩] 2),#[]⟩
noncomputable def qQn:Obj:=⟨(.type zHd),none,(.fields #[i0,(.str qAd 1172),(.str qAd 1173)]),#[]⟩
noncomputable def qQm:Obj:=⟨(.type t71),none,(.seq #[(.str "'generator' object has no attribute 'keys'" 1175)] 0),#[]⟩
noncomputable def qQl:Obj:=⟨(.type t82),none,(.fields #[(.ref 101),.none,.none,.none,(.bool false),.none,(.str "keys" 1176),(.ref 100)]),#[]⟩
noncomputable def qQk:Obj:=⟨(.type t71),none,(.seq #[(Jz 40 1179),(Jz 40 1181)] 0),#[]⟩
noncomputable def qQj:Obj:=⟨(.type t71),none,(.seq #[(Jz 123 1185),(Jz 40 1187)] 0),#[]⟩
noncomputable def qQi:Obj:=⟨(.type t71),none,(.seq #[(Jz 91 1191),(Jz 40 1193)] 0),#[]⟩
noncomputable def qQh:Obj:=⟨(.type t93),none,(.fields #[(.ref 106),.none,.none,.none,(.bool false),.none]),#[]⟩
noncomputable def qQg:Obj:=⟨(.type t93),none,(.fields #[(.ref 108),.none,.none,.none,(.bool false),.none]),#[]⟩
noncomputable def qVk:Obj:=⟨(.type xY),none,(.fields #[(.str qAd 1196),(.str qAd 1197),(.str qO 1198),i21,i1,i0,i0,(Iz 35),(.ref 111),(.bool true),kD,(.ref 112),.none,.none,.none,.none,(Iz 1199),i21,(.str qO 1200)]),#[]⟩
noncomputable def qVj (P:Params):Obj:=⟨(.type qJm),none,(.dict #[⟨(kh P qPx),(.str qPx 1201),(.ref 110)⟩,⟨(kh P qPw),(.str qPw 1208),(.str "]" 1219)⟩] 2),#[]⟩
noncomputable def qVi:Obj:=⟨(.type zHd),none,(.fields #[i1,(.str qAd 1202),(.str qAd 1203)]),#[]⟩
noncomputable def qVh:Obj:=⟨(.type t71),none,(.seq #[(.str "'generator' object has no attribute 'keys'" 1205)] 0),#[]⟩
noncomputable def qVg:Obj:=⟨(.type t82),none,(.fields #[(.ref 116),.none,.none,.none,(.bool false),.none,(.str "keys" 1206),(.ref 115)]),#[]⟩
noncomputable def qVf:Obj:=⟨(.type t71),none,(.seq #[(Jz 41 1209),(Jz 41 1211)] 0),#[]⟩
noncomputable def qVe:Obj:=⟨(.type t71),none,(.seq #[(Jz 125 1215),(Jz 41 1217)] 0),#[]⟩
noncomputable def qVd:Obj:=⟨(.type t71),none,(.seq #[(Jz 93 1221),(Jz 41 1223)] 0),#[]⟩
noncomputable def qVc:Obj:=⟨(.type t93),none,(.fields #[(.ref 121),.none,.none,.none,(.bool false),.none]),#[]⟩
noncomputable def qVb:Obj:=⟨(.type t93),none,(.fields #[(.ref 123),.none,.none,.none,(.bool false),.none]),#[]⟩
noncomputable def qVa:Obj:=⟨(.ref 83),(some 90),(.dict #[e0,e1,e2,e3,e4,e5,e6,e7,e8,e9,⟨(.ofNat 10),(Jz 10 928),(Jz 10 1255)⟩,e11,e12,e13,e14,e15,e16,e17,e18,e19,e20,e21,e22,e23,e24,e25,e26,e27,e28,e29,e30,e31,e32,e33,⟨(.ofNat 34),(Jz 34 976),(Jz 34 1240)⟩,⟨(.ofNat 35),(Jz 35 978),(Jz 35 1260)⟩,e36,e37,e38,⟨(.ofNat 39),(Jz 39 986),(Jz 39 1245)⟩,zKr,⟨(.ofNat 41),(Jz 41 990),(Jz 41 1211)⟩,e42,e43,e44,e45,e46,e47,e48,e49,e50,e51,e52,e53,e54,e55,e56,e57,e58,e59,e60,e61,e62,e63,e64,e65,e66,e67,e68,e69,e70,e71,e72,e73,e74,e75,e76,e77,e78,e79,e80,e81,e82,e83,e84,e85,e86,e87,e88,e89,e90,zKq,⟨(.ofNat 92),(Jz 92 1092),(Jz 92 1250)⟩,⟨(.ofNat 93),(Jz 93 1094),(Jz 41 1223)⟩,e94,e95,e96,e97,e98,e99,qRu,qRt,qRs,qRr,qRq,qRp,qRo,qRn,qRm,qRl,qRk,qRj,qYa,qXz,qXy,qXx,qXw,qXv,qXu,qXt,qXs,qXr,qXq,zKp,qXp,⟨(.ofNat 125),(Jz 125 1158),(Jz 41 1217)⟩,qXo,qXn] 128),#[]⟩
noncomputable def zDu:Obj:=⟨(.type (SL.s13500813778147066322x18)),none,(.fields #[.none,(Iz 5)]),#[]⟩
noncomputable def zDt:Obj:=⟨(.type xY),none,(.fields #[(.str qAd 1226),(.str qAd 1227),(.str qO 1228),(Iz 22),i1,i0,i0,(Iz 35),(.ref 126),(.bool true),kD,(.ref 127),.none,.none,.none,.none,(Iz 1229),(Iz 22),(.str qO 1230)]),#[]⟩
noncomputable def zDs (P:Params):Obj:=⟨(.type qJm),none,(.dict #[⟨(kh P qPx),(.str qPx 1231),(.ref 125)⟩,⟨(kh P qPw),(.str qPw 1238),(.str "#" 1257)⟩] 2),#[]⟩
noncomputable def zDr:Obj:=⟨(.type zHd),none,(.fields #[i2,(.str qAd 1232),(.str qAd 1233)]),#[]⟩
noncomputable def zDq:Obj:=⟨(.type t71),none,(.seq #[(.str "'generator' object has no attribute 'keys'" 1235)] 0),#[]⟩
noncomputable def zDp:Obj:=⟨(.type t82),none,(.fields #[(.ref 131),.none,.none,.none,(.bool false),.none,(.str "keys" 1236),(.ref 130)]),#[]⟩
noncomputable def zDo:Obj:=⟨(.type t71),none,(.seq #[(Jz 34 1239),(Jz 34 1240)] 0),#[]⟩
noncomputable def zDn:Obj:=⟨(.type t71),none,(.seq #[(Jz 39 1244),(Jz 39 1245)] 0),#[]⟩
noncomputable def zDm:Obj:=⟨(.type t71),none,(.seq #[(Jz 92 1249),(Jz 92 1250)] 0),#[]⟩
noncomputable def zDl:Obj:=⟨(.type t71),none,(.seq #[(Jz 10 1254),(Jz 10 1255)] 0),#[]⟩
noncomputable def zDk:Obj:=⟨(.type t71),none,(.seq #[(Jz 35 1259),(Jz 35 1260)] 0),#[]⟩
noncomputable def zDj:Obj:=⟨(.type t93),none,(.fields #[(.ref 138),.none,.none,.none,(.bool false),.none]),#[]⟩
noncomputable def zDi:Obj:=⟨(.type t93),none,(.fields #[(.ref 140),.none,.none,.none,(.bool false),.none]),#[]⟩
noncomputable def zNc (P:Params):Obj:=⟨(.type t0),none,(.dict #[⟨(kh P s0),(.str s0 165),(.str kB 289)⟩,⟨(kh P s2),(.str s2 166),.none⟩,⟨(kh P s3),(.str s3 167),.none⟩,⟨(kh P s4),(.str s4 168),(.builtin qGr)⟩,⟨(kh P s5),(.str s5 169),.none⟩,⟨(kh P wY),(.str wY 170),(.ref 6)⟩,⟨(kh P wX),(.str wX 171),(.ref 4)⟩,⟨(kh P wW),(.str wW 173),(.str qO 172)⟩,⟨(kh P wV),(.str wV 174),.none⟩,⟨(kh P vC),(.str vC 275),(.ref 12)⟩,⟨(kh P vT),(.str vT 288),(.ref 38)⟩,⟨(kh P yF),(.str yF 504),(.ref 43)⟩,⟨(kh P yE),(.str yE 548),(.ref 48)⟩,⟨(kh P uI),(.str uI 823),(.ref 53)⟩,⟨(kh P uH),(.str uH 853),(.ref 58)⟩,⟨(kh P qAi),(.str qAi 862),(Jz 0 857)⟩,⟨(kh P qAh),(.str qAh 863),(Jz 1 858)⟩,⟨(kh P qAg),(.str qAg 864),(Jz 2 859)⟩,⟨(kh P qAf),(.str qAf 865),(Jz 3 860)⟩,⟨(kh P qAe),(.str qAe 866),(Jz 4 861)⟩,⟨(kh P qBm),(.str qBm 868),(.ref 63)⟩,⟨(kh P qBl),(.str qBl 870),(.ref 64)⟩,⟨(kh P qBk),(.str qBk 872),(.ref 65)⟩,⟨(kh P qBj),(.str qBj 874),(.ref 66)⟩,⟨(kh P yD),(.str yD 902),(.ref 83)⟩,⟨(kh P qKl),(.str qKl 1164),(.ref 91)⟩,⟨(kh P qBi),(.str qBi 1427),(.ref 249)⟩] 27),#[]⟩
noncomputable def zJs (P:Params):Obj:=⟨(.type t0),none,(.dict #[⟨(kh P qAn),(.str qAn 1269),(.str kB 289)⟩,⟨(kh P zAq),(.str zAq 1271),(.str qBi 1270)⟩,⟨(kh P qAm),(.str qAm 1273),(Jz 23 1272)⟩,⟨(kh P qEu),(.str qEu 1282),(.ref 155)⟩,⟨(kh P qKk),(.str qKk 1290),(.ref 162)⟩,⟨(kh P qKj),(.str qKj 1305),(.ref 169)⟩,⟨(kh P qKi),(.str qKi 1313),(.ref 176)⟩,⟨(kh P qKh),(.str qKh 1332),(.ref 183)⟩,⟨(kh P qKg),(.str qKg 1339),(.ref 190)⟩,⟨(kh P qKf),(.str qKf 1359),(.ref 197)⟩,⟨(kh P qKe),(.str qKe 1366),(.ref 204)⟩,⟨(kh P qKd),(.str qKd 1373),(.ref 211)⟩,⟨(kh P qKc),(.str qKc 1380),(.ref 218)⟩,⟨(kh P qKb),(.str qKb 1387),(.ref 225)⟩,⟨(kh P qKa),(.str qKa 1394),(.ref 232)⟩,⟨(kh P qJz),(.str qJz 1401),(.ref 239)⟩,⟨(kh P qJy),(.str qJy 1408),(.ref 246)⟩,⟨(kh P qAl),(.str qAl 1420),(.ref 247)⟩] 18),#[]⟩
noncomputable def zJr:Obj:=⟨.none,none,(.fields #[(Iz 25),i4,(.ref 154),(Iz 29),i4,(.ref 161),i34,i4,(.ref 168),(Iz 59),i4,(.ref 175),(Iz 64),i4,(.ref 182),(Iz 149),i4,(.ref 189),(Iz 153),i4,(.ref 196),(Iz 226),i4,(.ref 203),(Iz 229),i4,(.ref 210),(Iz 232),i4,(.ref 217),(Iz 235),i4,(.ref 224),(Iz 238),i4,(.ref 231),(Iz 242),i4,(.ref 238),(Iz 245),i4,(.ref 245)]),#[]⟩
noncomputable def zJq:Obj:=⟨(.type xY),none,(.fields #[(.str qBi 1264),(.str qBi 1265),(.str qO 1266),i23,i0,i0,i0,i0,(.ref 145),(.bool false),kD,(.ref 146),.none,.none,.none,.none,(Iz 1267),i23,(.str qO 1268)]),#[]⟩
noncomputable def zJp:Obj:=⟨(.type qJm),none,.plain,#[(some (.ref 147)),(some (.ref 3)),(some (.ref 144)),none,(some (.str kB 289)),none,(some (.ref 0))]⟩
noncomputable def zDh:Obj:=⟨(.type t71),none,(.seq #[(.str yC 1277),(.str "indentwidth" 1278),(.str "tabwidth" 1279)] 0),#[]⟩
noncomputable def zJo:Obj:=⟨.none,none,(Fz (nth (cls (nth TB 17)) 0) qEu "Parser.__init__"),#[]⟩
noncomputable def zDg:Obj:=⟨(.type xY),none,(.fields #[(.str qEu 1274),(.str "Parser.__init__" 1275),(.str qO 1276),(Iz 25),i3,i0,i0,i3,(.ref 149),(.bool true),kD,(.ref 150),.none,(.ref 151),(.ref 152),(.ref 153),(Iz 1280),(Iz 25),(.str qO 1281)]),#[]⟩
noncomputable def zDf:Obj:=⟨(.type vK),none,(Gz (nth (cls (nth TB 17)) 0) qEu "Parser.__init__" (.str kB 289) (.ref 154)),#[]⟩
noncomputable def zDe:Obj:=⟨(.type t71),none,(.seq #[(.str yC 1286),(.str "s" 1287)] 0),#[]⟩
noncomputable def zJn:Obj:=⟨.none,none,(Fz (nth (cls (nth TB 17)) 1) qKk "Parser.set_code"),#[]⟩
noncomputable def zDd:Obj:=⟨(.type xY),none,(.fields #[(.str qKk 1283),(.str "Parser.set_code" 1284),(.str qO 1285),(Iz 29),i2,i0,i0,i3,(.ref 156),(.bool true),kD,(.ref 157),.none,(.ref 158),(.ref 159),(.ref 160),(Iz 1288),(Iz 29),(.str qO 1289)]),#[]⟩
noncomputable def zDc:Obj:=⟨(.type vK),none,(Gz (nth (cls (nth TB 17)) 1) qKk "Parser.set_code" (.str kB 289) (.ref 161)),#[]⟩
noncomputable def zDb:Obj:=⟨(.type t71),none,(.seq #[(.str yC 1294),(.str "is_char_in_string" 1295),(.str qPv 1296),(.str "pos" 1297),(.str "limit" 1298),(.str "tries" 1299),(.str "i" 1300),(.str "m" 1301),(.str "s" 1302)] 0),#[]⟩
noncomputable def zJm:Obj:=⟨.none,none,(Fz (nth (cls (nth TB 17)) 2) qKj "Parser.find_good_parse_start"),#[]⟩
noncomputable def zDa:Obj:=⟨(.type xY),none,(.fields #[(.str qKj 1291),(.str "Parser.find_good_parse_start" 1292),(.str qO 1293),i34,i2,i0,i0,i3,(.ref 163),(.bool true),kD,(.ref 164),.none,(.ref 165),(.ref 166),(.ref 167),(Iz 1303),i34,(.str qO 1304)]),#[]⟩
noncomputable def zCz:Obj:=⟨(.type vK),none,(Gz (nth (cls (nth TB 17)) 2) qKj "Parser.find_good_parse_start" (.str kB 289) (.ref 168)),#[]⟩
noncomputable def zCy:Obj:=⟨(.type t71),none,(.seq #[(.str yC 1309),(.str "lo" 1310)] 0),#[]⟩
noncomputable def zJl:Obj:=⟨.none,none,(Fz (nth (cls (nth TB 17)) 3) qKi "Parser.set_lo"),#[]⟩
noncomputable def zCx:Obj:=⟨(.type xY),none,(.fields #[(.str qKi 1306),(.str "Parser.set_lo" 1307),(.str qO 1308),(Iz 59),i2,i0,i0,i3,(.ref 170),(.bool true),kD,(.ref 171),.none,(.ref 172),(.ref 173),(.ref 174),(Iz 1311),(Iz 59),(.str qO 1312)]),#[]⟩
noncomputable def zCw:Obj:=⟨(.type vK),none,(Gz (nth (cls (nth TB 17)) 3) qKi "Parser.set_lo" (.str kB 289) (.ref 175)),#[]⟩
noncomputable def zCv:Obj:=⟨(.type t71),none,(.seq #[(.str yC 1317),(.str qPv 1318),(.str "continuation" 1319),(.str "level" 1320),(.str "lno" 1321),(.str "goodlines" 1322),(.str "push_good" 1323),(.str "i" 1324),(.str "n" 1325),(.str "ch" 1326),(.str "quote" 1327),(.str "firstlno" 1328),(.str "w" 1329)] 0),#[]⟩
noncomputable def zJk:Obj:=⟨.none,none,(Fz (nth (cls (nth TB 17)) 4) qKh "Parser._study1"),#[]⟩
noncomputable def zCu:Obj:=⟨(.type xY),none,(.fields #[(.str qKh 1314),(.str "Parser._study1" 1315),(.str qO 1316),(Iz 64),i1,i0,i0,i3,(.ref 177),(.bool true),kD,(.ref 178),.none,(.ref 179),(.ref 180),(.ref 181),(Iz 1330),(Iz 64),(.str qO 1331)]),#[]⟩
noncomputable def zCt:Obj:=⟨(.type vK),none,(Gz (nth (cls (nth TB 17)) 4) qKh "Parser._study1" (.str kB 289) (.ref 182)),#[]⟩
noncomputable def zCs:Obj:=⟨(.type t71),none,(.seq #[(.str yC 1336)] 0),#[]⟩
noncomputable def zJj:Obj:=⟨.none,none,(Fz (nth (cls (nth TB 17)) 5) qKg "Parser.get_continuation_type"),#[]⟩
noncomputable def zCr:Obj:=⟨(.type xY),none,(.fields #[(.str qKg 1333),(.str "Parser.get_continuation_type" 1334),(.str qO 1335),(Iz 149),i1,i0,i0,i3,(.ref 184),(.bool true),kD,(.ref 185),.none,(.ref 186),(.ref 187),(.ref 188),(Iz 1337),(Iz 149),(.str qO 1338)]),#[]⟩
noncomputable def zCq:Obj:=⟨(.type vK),none,(Gz (nth (cls (nth TB 17)) 5) qKg "Parser.get_continuation_type" (.str kB 289) (.ref 189)),#[]⟩
noncomputable def zCp:Obj:=⟨(.type t71),none,(.seq #[(.str yC 1343),(.str qPv 1344),(.str "goodlines" 1345),(.str "i" 1346),(.str "p" 1347),(.str "q" 1348),(.str "nothing" 1349),(.str "lastch" 1350),(.str "stack" 1351),(.str "push_stack" 1352),(.str "bracketing" 1353),(.str "m" 1354),(.str "newp" 1355),(.str "ch" 1356)] 0),#[]⟩
noncomputable def zJi:Obj:=⟨.none,none,(Fz (nth (cls (nth TB 17)) 6) qKf "Parser._study2"),#[]⟩
noncomputable def zCo:Obj:=⟨(.type xY),none,(.fields #[(.str qKf 1340),(.str "Parser._study2" 1341),(.str qO 1342),(Iz 153),i1,i0,i0,i3,(.ref 191),(.bool true),kD,(.ref 192),.none,(.ref 193),(.ref 194),(.ref 195),(Iz 1357),(Iz 153),(.str qO 1358)]),#[]⟩
noncomputable def zCn:Obj:=⟨(.type vK),none,(Gz (nth (cls (nth TB 17)) 6) qKf "Parser._study2" (.str kB 289) (.ref 196)),#[]⟩
noncomputable def zCm:Obj:=⟨(.type t71),none,(.seq #[(.str yC 1363)] 0),#[]⟩
noncomputable def zJh:Obj:=⟨.none,none,(Fz (nth (cls (nth TB 17)) 7) qKe "Parser.compute_bracket_indent"),#[]⟩
noncomputable def zCl:Obj:=⟨(.type xY),none,(.fields #[(.str qKe 1360),(.str "Parser.compute_bracket_indent" 1361),(.str qO 1362),(Iz 226),i1,i0,i0,i3,(.ref 198),(.bool true),kD,(.ref 199),.none,(.ref 200),(.ref 201),(.ref 202),(Iz 1364),(Iz 226),(.str qO 1365)]),#[]⟩
noncomputable def zCk:Obj:=⟨(.type vK),none,(Gz (nth (cls (nth TB 17)) 7) qKe "Parser.compute_bracket_indent" (.str kB 289) (.ref 203)),#[]⟩
noncomputable def zCj:Obj:=⟨(.type t71),none,(.seq #[(.str yC 1370)] 0),#[]⟩
noncomputable def zJg:Obj:=⟨.none,none,(Fz (nth (cls (nth TB 17)) 8) qKd "Parser.get_num_lines_in_stmt"),#[]⟩
noncomputable def zCi:Obj:=⟨(.type xY),none,(.fields #[(.str qKd 1367),(.str "Parser.get_num_lines_in_stmt" 1368),(.str qO 1369),(Iz 229),i1,i0,i0,i3,(.ref 205),(.bool true),kD,(.ref 206),.none,(.ref 207),(.ref 208),(.ref 209),(Iz 1371),(Iz 229),(.str qO 1372)]),#[]⟩
noncomputable def zCh:Obj:=⟨(.type vK),none,(Gz (nth (cls (nth TB 17)) 8) qKd "Parser.get_num_lines_in_stmt" (.str kB 289) (.ref 210)),#[]⟩
noncomputable def zCg:Obj:=⟨(.type t71),none,(.seq #[(.str yC 1377)] 0),#[]⟩
noncomputable def zJf:Obj:=⟨.none,none,(Fz (nth (cls (nth TB 17)) 9) qKc "Parser.compute_backslash_indent"),#[]⟩
noncomputable def zCf:Obj:=⟨(.type xY),none,(.fields #[(.str qKc 1374),(.str "Parser.compute_backslash_indent" 1375),(.str qO 1376),(Iz 232),i1,i0,i0,i3,(.ref 212),(.bool true),kD,(.ref 213),.none,(.ref 214),(.ref 215),(.ref 216),(Iz 1378),(Iz 232),(.str qO 1379)]),#[]⟩
noncomputable def zCe:Obj:=⟨(.type vK),none,(Gz (nth (cls (nth TB 17)) 9) qKc "Parser.compute_backslash_indent" (.str kB 289) (.ref 217)),#[]⟩
noncomputable def zCd:Obj:=⟨(.type t71),none,(.seq #[(.str yC 1384)] 0),#[]⟩
noncomputable def zJe:Obj:=⟨.none,none,(Fz (nth (cls (nth TB 17)) 10) qKb "Parser.get_base_indent_string"),#[]⟩
noncomputable def zCc:Obj:=⟨(.type xY),none,(.fields #[(.str qKb 1381),(.str "Parser.get_base_indent_string" 1382),(.str qO 1383),(Iz 235),i1,i0,i0,i3,(.ref 219),(.bool true),kD,(.ref 220),.none,(.ref 221),(.ref 222),(.ref 223),(Iz 1385),(Iz 235),(.str qO 1386)]),#[]⟩
noncomputable def zCb:Obj:=⟨(.type vK),none,(Gz (nth (cls (nth TB 17)) 10) qKb "Parser.get_base_indent_string" (.str kB 289) (.ref 224)),#[]⟩
noncomputable def zCa:Obj:=⟨(.type t71),none,(.seq #[(.str yC 1391)] 0),#[]⟩
noncomputable def zJd:Obj:=⟨.none,none,(Fz (nth (cls (nth TB 17)) 11) qKa "Parser.is_block_opener"),#[]⟩
noncomputable def zBz:Obj:=⟨(.type xY),none,(.fields #[(.str qKa 1388),(.str "Parser.is_block_opener" 1389),(.str qO 1390),(Iz 238),i1,i0,i0,i3,(.ref 226),(.bool true),kD,(.ref 227),.none,(.ref 228),(.ref 229),(.ref 230),(Iz 1392),(Iz 238),(.str qO 1393)]),#[]⟩
noncomputable def zBy:Obj:=⟨(.type vK),none,(Gz (nth (cls (nth TB 17)) 11) qKa "Parser.is_block_opener" (.str kB 289) (.ref 231)),#[]⟩
noncomputable def zBx:Obj:=⟨(.type t71),none,(.seq #[(.str yC 1398)] 0),#[]⟩
noncomputable def zJc:Obj:=⟨.none,none,(Fz (nth (cls (nth TB 17)) 12) qJz "Parser.is_block_closer"),#[]⟩
noncomputable def zBw:Obj:=⟨(.type xY),none,(.fields #[(.str qJz 1395),(.str "Parser.is_block_closer" 1396),(.str qO 1397),(Iz 242),i1,i0,i0,i3,(.ref 233),(.bool true),kD,(.ref 234),.none,(.ref 235),(.ref 236),(.ref 237),(Iz 1399),(Iz 242),(.str qO 1400)]),#[]⟩
noncomputable def zBv:Obj:=⟨(.type vK),none,(Gz (nth (cls (nth TB 17)) 12) qJz "Parser.is_block_closer" (.str kB 289) (.ref 238)),#[]⟩
noncomputable def zBu:Obj:=⟨(.type t71),none,(.seq #[(.str yC 1405)] 0),#[]⟩
noncomputable def zJb:Obj:=⟨.none,none,(Fz (nth (cls (nth TB 17)) 13) qJy "Parser.get_last_stmt_bracketing"),#[]⟩
noncomputable def zBt:Obj:=⟨(.type xY),none,(.fields #[(.str qJy 1402),(.str "Parser.get_last_stmt_bracketing" 1403),(.str qO 1404),(Iz 245),i1,i0,i0,i3,(.ref 240),(.bool true),kD,(.ref 241),.none,(.ref 242),(.ref 243),(.ref 244),(Iz 1406),(Iz 245),(.str qO 1407)]),#[]⟩
noncomputable def zBs:Obj:=⟨(.type vK),none,(Gz (nth (cls (nth TB 17)) 13) qJy "Parser.get_last_stmt_bracketing" (.str kB 289) (.ref 245)),#[]⟩
noncomputable def zBr:Obj:=⟨(.type t71),none,(.seq #[(.str qPv 1409),(.str "continuation" 1410),(.str "goodlines" 1411),(.str "indentwidth" 1412),(.str "lastch" 1413),(.str "lastopenbracketpos" 1414),(.str "stmt_bracketing" 1415),(.str "stmt_end" 1416),(.str "stmt_start" 1417),(.str "study_level" 1418),(.str "tabwidth" 1419)] 0),#[]⟩
noncomputable def zBq (P:Params):Obj:=⟨(.type t0),none,(.dict #[⟨(kh P qAn),(.str qAn 1269),(.str kB 289)⟩,⟨(kh P qAm),(.str qAm 1273),(Jz 23 1272)⟩,⟨(kh P qEu),(.str qEu 1282),(.ref 155)⟩,⟨(kh P qKk),(.str qKk 1290),(.ref 162)⟩,⟨(kh P qKj),(.str qKj 1305),(.ref 169)⟩,⟨(kh P qKi),(.str qKi 1313),(.ref 176)⟩,⟨(kh P qKh),(.str qKh 1332),(.ref 183)⟩,⟨(kh P qKg),(.str qKg 1339),(.ref 190)⟩,⟨(kh P qKf),(.str qKf 1359),(.ref 197)⟩,⟨(kh P qKe),(.str qKe 1366),(.ref 204)⟩,⟨(kh P qKd),(.str qKd 1373),(.ref 211)⟩,⟨(kh P qKc),(.str qKc 1380),(.ref 218)⟩,⟨(kh P qKb),(.str qKb 1387),(.ref 225)⟩,⟨(kh P qKa),(.str qKa 1394),(.ref 232)⟩,⟨(kh P qJz),(.str qJz 1401),(.ref 239)⟩,⟨(kh P qJy),(.str qJy 1408),(.ref 246)⟩,⟨(kh P qAl),(.str qAl 1420),(.ref 247)⟩,⟨(kh P qAk),(.str qAk 1422),(.ref 250)⟩,⟨(kh P qAj),(.str qAj 1424),(.ref 251)⟩,⟨(kh P s2),(.str s2 1425),.none⟩] 4),#[]⟩
noncomputable def zBp:Obj:=⟨(.type t72),none,(.cls ⟨qBi,[(.type t63)],[(.ref 249),(.type t63)],248,qBi,true,[],[],false,none,false⟩),#[none,none,(some (.str qBi 1262)),(some (.str qBi 1270)),(some (.builtin (SL.s11443829558043349243x14))),(some (.bool true))]⟩
noncomputable def zBo:Obj:=⟨(.type qGq),none,(.fields #[(.str qAk 1421),(.ref 249),(.builtin qZu),(.builtin qZt)]),#[]⟩
noncomputable def zBn:Obj:=⟨(.type qGq),none,(.fields #[(.str qAj 1423),(.ref 249),(.builtin qZs),.none]),#[]⟩
noncomputable def zJa:Obj:=⟨(.type t70),none,(.fields #[(.ref 249),(.ref 249),(.ref 249)]),#[]⟩
noncomputable def zIz:Obj:=⟨(.type qGp),none,(.fields #[(.builtin (SL.s4860613602091757760x24)),(.ref 249)]),#[]⟩
noncomputable def zIy (P:Params):Obj:=⟨(.type t0),none,(.dict #[⟨(kh P s0),(.str s0 165),(.str qPu 1428)⟩,⟨(kh P s2),(.str s2 166),.none⟩,⟨(kh P s3),(.str s3 167),.none⟩,⟨(kh P s4),(.str s4 168),(.builtin qGr)⟩,⟨(kh P s5),(.str s5 169),.none⟩,⟨(kh P wY),(.str wY 170),(.ref 6)⟩,⟨(kh P wX),(.str wX 171),(.ref 4)⟩,⟨(kh P wW),(.str wW 173),(.str qO 172)⟩,⟨(kh P wV),(.str wV 174),.none⟩,⟨(kh P vC),(.str vC 275),(.ref 12)⟩,⟨(kh P vT),(.str vT 288),(.ref 38)⟩,⟨(kh P yF),(.str yF 504),(.ref 43)⟩,⟨(kh P yE),(.str yE 548),(.ref 48)⟩,⟨(kh P uI),(.str uI 823),(.ref 53)⟩,⟨(kh P uH),(.str uH 853),(.ref 58)⟩,⟨(kh P qAi),(.str qAi 862),(Jz 0 857)⟩,⟨(kh P qAh),(.str qAh 863),(Jz 1 858)⟩,⟨(kh P qAg),(.str qAg 864),(Jz 2 859)⟩,⟨(kh P qAf),(.str qAf 865),(Jz 3 860)⟩,⟨(kh P qAe),(.str qAe 866),(Jz 4 861)⟩,⟨(kh P qBm),(.str qBm 868),(.ref 63)⟩,⟨(kh P qBl),(.str qBl 870),(.ref 64)⟩,⟨(kh P qBk),(.str qBk 872),(.ref 65)⟩,⟨(kh P qBj),(.str qBj 874),(.ref 66)⟩,⟨(kh P yD),(.str yD 902),(.ref 83)⟩,⟨(kh P qKl),(.str qKl 1164),(.ref 91)⟩,⟨(kh P qBi),(.str qBi 1427),(.ref 249)⟩,⟨(kh P qCx),(.str qCx 1436),(.ref 260)⟩,⟨(kh P qCw),(.str qCw 1444),(.ref 267)⟩,⟨(kh P qCv),(.str qCv 1451),(.ref 274)⟩,⟨(kh P qCu),(.str qCu 1457),(.ref 279)⟩,⟨(kh P qCt),(.str qCt 1463),(.ref 284)⟩] 32),#[]⟩
noncomputable def zIx:Obj:=⟨(.type t71),none,(.seq #[(.str "parser" 1433)] 0),#[]⟩
noncomputable def zIw:Obj:=⟨(.type xY),none,(.fields #[(.str qCx 1430),(.str qCx 1431),(.str qO 1432),(Iz 249),i1,i0,i0,i3,(.ref 254),(.bool true),kD,(.ref 255),.none,(.ref 256),(.ref 257),(.ref 258),(Iz 1434),(Iz 249),(.str qO 1435)]),#[]⟩
noncomputable def zIv:Obj:=⟨(.type vK),none,(Gz (nth TB 19) qCx qCx (.str qPu 1428) (.ref 259)),#[]⟩
noncomputable def zIu:Obj:=⟨(.type t71),none,(.seq #[(.str qPv 1440),(.str "parser" 1441)] 0),#[]⟩
noncomputable def zIt:Obj:=⟨(.type xY),none,(.fields #[(.str qCw 1437),(.str qCw 1438),(.str qO 1439),(Iz 251),i1,i0,i0,i3,(.ref 261),(.bool true),kD,(.ref 262),.none,(.ref 263),(.ref 264),(.ref 265),(Iz 1442),(Iz 251),(.str qO 1443)]),#[]⟩
noncomputable def zIs:Obj:=⟨(.type vK),none,(Gz (nth TB 20) qCw qCw (.str qPu 1428) (.ref 266)),#[]⟩
noncomputable def zIr:Obj:=⟨(.type t71),none,(.seq #[(.str qPv 1448)] 0),#[]⟩
noncomputable def zIq:Obj:=⟨(.type xY),none,(.fields #[(.str qCv 1445),(.str qCv 1446),(.str qO 1447),(Iz 255),i1,i0,i0,i3,(.ref 268),(.bool true),kD,(.ref 269),.none,(.ref 270),(.ref 271),(.ref 272),(Iz 1449),(Iz 255),(.str qO 1450)]),#[]⟩
noncomputable def zIp:Obj:=⟨(.type vK),none,(Gz (nth TB 21) qCv qCv (.str qPu 1428) (.ref 273)),#[]⟩
noncomputable def zIo:Obj:=⟨(.type xY),none,(.fields #[(.str qCu 1452),(.str qCu 1453),(.str qO 1454),(Iz 263),i2,i0,i0,i3,(.ref 275),(.bool true),kD,(.ref 276),.none,.none,.none,(.ref 277),(Iz 1455),(Iz 263),(.str qO 1456)]),#[]⟩
noncomputable def zIn:Obj:=⟨(.type vK),none,(Gz (nth TB 22) qCu qCu (.str qPu 1428) (.ref 278)),#[]⟩
noncomputable def zIm:Obj:=⟨(.type xY),none,(.fields #[(.str qCt 1458),(.str qCt 1459),(.str qO 1460),(Iz 266),i1,i0,i0,i3,(.ref 280),(.bool true),kD,(.ref 281),.none,.none,.none,(.ref 282),(Iz 1461),(Iz 266),(.str qO 1462)]),#[]⟩
noncomputable def zIl:Obj:=⟨(.type vK),none,(Gz (nth TB 23) qCt qCt (.str qPu 1428) (.ref 283)),#[]⟩
noncomputable def zNb (P:Params):Obj:=⟨(.type t0),none,(.dict #[⟨(kh P s0),(.str s0 247),(.str vC 246)⟩,⟨(kh P s2),(.str s2 248),.none⟩,⟨(kh P s3),(.str s3 250),(.str zBb 249)⟩,⟨(kh P s4),(.str s4 251),(.ref 14)⟩,⟨(kh P s5),(.str s5 252),(.ref 26)⟩,⟨(kh P s16),(.str s16 253),(.builtin (SL.s492968859115322481x12))⟩,⟨(kh P zBa),(.str zBa 254),(.builtin (SL.s4732307381456220424x13))⟩,⟨(kh P zAz),(.str zAz 255),(.builtin (SL.s3100639726926479615x16))⟩,⟨(kh P zAy),(.str zAy 256),(.builtin (SL.s1824190863884607803x18))⟩,⟨(kh P zAx),(.str zAx 257),(.builtin (SL.s15517275503517908518x20))⟩,⟨(kh P zAw),(.str zAw 258),(.builtin (SL.s13462958993096105742x18))⟩,⟨(kh P zAv),(.str zAv 259),(.builtin (SL.s7205697838950415266x20))⟩,⟨(kh P zAu),(.str zAu 261),(Jz 20230612 260)⟩,⟨(kh P zAt),(.str zAt 263),(Jz 4 262)⟩,⟨(kh P zAs),(.str zAs 265),(Jz 4294967295 264)⟩,⟨(kh P zAr),(.str zAr 267),(Jz 1073741823 266)⟩,⟨(kh P qPz),(.str qPz 269),(.str " SRE 2.2.2 Copyright (c) 1997-2002 by Secret Labs AB " 268)⟩] 17),#[]⟩
noncomputable def env:Env:={ scope:=Challenge.pw_dm0167_07.main.scope,locals:=mainNs,globals:=mainNs,cells:=[],code:=.ref 30,frame:=some 31 }
noncomputable def l0:List Stmt:=[nth TB 1,nth TB 2,nth TB 3,nth TB 4]
noncomputable def l1:List Stmt:=[nth TB 5,nth TB 6]
noncomputable def l2:List Stmt:=[nth TB 7,nth TB 8,nth TB 9,nth TB 10,nth TB 11]
noncomputable def l3:List Stmt:=[nth TB 12]
noncomputable def l4:List Stmt:=[nth TB 13]
noncomputable def l5:List Stmt:=[nth TB 14]
noncomputable def l6:List Stmt:=[nth TB 15]
noncomputable def l7:List Stmt:=[nth TB 16]
noncomputable def l8:List Stmt:=[nth TB 17]
noncomputable def l9:List Stmt:=[nth TB 18,nth TB 19,nth TB 20,nth TB 21,nth TB 22,nth TB 23]
noncomputable def bE:List Stmt:=l0++(l1++(l2++(l3++(l4++(l5++(l6++(l7++(l8++(l9++(([]:List Stmt)))))))))))
noncomputable def cE:Code:=.body bE env
noncomputable def q:Pos:=⟨0,0,0,0⟩
noncomputable def kP (l:List Stmt) (p:Pos):Thread:=⟨PySem.Sem.wrap doneF deadEnd id id (Fast.tw12563942051412417395 l env),cE,p,[topFrame q]⟩
theorem vJ (l:List Stmt) (p:Pos):piecesOf l env cE p [topFrame q]=kP l p:=by
 show (⟨(execs l env).wrap doneF deadEnd id id,cE,p,[topFrame q]⟩:Thread)=_
 delta kP
 rw [Fast.te12563942051412417395]
noncomputable def L0 (P:Params):List Obj:=[(o0 P),(o1 P),(o2 P),(o3 P),o4,o5,o6,o7,o8,o9,o10,(o11 P),o12,(o13 P),o14,o7,o15,o16,o17,o18,(o19 P),(o20 P),o21,o22,o23,o24,o25,o26]
noncomputable def S0 (w:World) (os:OsState):SharedT:=⟨bt 12 (L0 w.params),28,{},#[],⟨0,0,0,0⟩,276,os⟩
noncomputable def L1 (P:Params):List Obj:=[(o0 P),(o1 P),(o2 P),(o3 P),o4,o5,o6,o7,o8,o9,o10,(o11 P),o12,(o13 P),o14,o7,o15,o16,o17,o18,(o19 P),(o20 P),o21,o22,o23,o24,o25,o26,o7,o8,o27,o28]
noncomputable def S1 (w:World) (os:OsState):SharedT:=⟨bt 12 (L1 w.params),32,{},#[],⟨0,0,0,0⟩,282,os⟩
noncomputable def L2 (P:Params):List Obj:=[(o0 P),(o1 P),(o2 P),(o3 P),o4,o5,o6,o7,o8,o9,o10,(o11 P),o12,(o13 P),o14,o7,o15,o16,o17,o18,(o19 P),(o20 P),o21,o22,o23,o24,o25,o26,o7,o8,o27,o28]
noncomputable def S2 (w:World) (os:OsState):SharedT:=⟨bt 12 (L2 w.params),32,{},#[],⟨0,0,0,0⟩,282,os⟩
noncomputable def L3 (P:Params):List Obj:=[(o0 P),(o1 P),(o2 P),(o29 P),o4,o5,o6,o7,o8,o9,o10,(o11 P),o12,(o13 P),o14,o7,o15,o16,o17,o18,(o19 P),(o20 P),o21,o22,o23,o24,o25,o26,o7,o30,o27,o28,o7,o8,o31,o7,o32,o33,o34,o35,o6,o36,o37,o38,o39,o6,o36,o40,o41]
noncomputable def S3 (w:World) (os:OsState):SharedT:=⟨bt 12 (L3 w.params),49,{},#[],⟨0,0,0,0⟩,549,os⟩
noncomputable def L4 (P:Params):List Obj:=[(o0 P),(o1 P),(o2 P),(o42 P),o4,o5,o6,o7,o8,o9,o10,(o11 P),o12,(o13 P),o14,o7,o15,o16,o17,o18,(o19 P),(o20 P),o21,o22,o23,o24,o25,o26,o7,o30,o27,o28,o7,o8,o31,o7,o32,o33,o34,o35,o6,o36,o37,o38,o39,o6,o36,o40,o41,o43,o6,o36,o44,o45,o46,o6,o36,o47,o48]
noncomputable def S4 (w:World) (os:OsState):SharedT:=⟨bt 12 (L4 w.params),59,{},#[],⟨0,0,0,0⟩,854,os⟩
noncomputable def L5 (P:Params):List Obj:=[(o0 P),(o1 P),(o2 P),(o49 P),o4,o5,o6,o7,o8,o9,o10,(o11 P),o12,(o13 P),o14,o7,o15,o16,o17,o18,(o19 P),(o20 P),o21,o22,o23,o24,o25,o26,o7,o30,o27,o28,o7,o8,o31,o7,o32,o33,o34,o35,o6,o36,o37,o38,o39,o6,o36,o40,o41,o43,o6,o36,o44,o45,o46,o6,o36,o47,o48,o50,o51,o7,o52,o53,o54,o55,o56]
noncomputable def S5 (w:World) (os:OsState):SharedT:=⟨bt 12 (L5 w.params),67,{},#[],⟨0,0,0,0⟩,875,os⟩
noncomputable def L6 (P:Params):List Obj:=[(o0 P),(o1 P),(o2 P),(o57 P),o4,o5,o6,o7,o8,o9,o10,(o11 P),o12,(o13 P),o14,o7,o15,o16,o17,o18,(o19 P),(o20 P),o21,o22,o23,o24,o25,o26,o7,o58,o27,o28,o7,o8,o31,o7,o32,o33,o34,o35,o6,o36,o37,o38,o39,o6,o36,o40,o41,o43,o6,o36,o44,o45,o46,o6,o36,o47,o48,o50,o51,o7,o52,o53,o54,o55,o56,o59,o60,(o61 P),o7,o62,o63,o64,o7,o8,o65,o7,o66,o67,o68,o7,(o69 P),o70,o71,o72,o73,o74]
noncomputable def S6 (w:World) (os:OsState):SharedT:=⟨bt 12 (L6 w.params),88,{},#[],⟨0,0,0,0⟩,903,os⟩
noncomputable def L7 (P:Params):List Obj:=[(o0 P),(o1 P),(o2 P),(o57 P),o4,o5,o6,o7,o8,o9,o10,(o11 P),o12,(o13 P),o14,o7,o15,o16,o17,o18,(o19 P),(o20 P),o21,o22,o23,o24,o25,o26,o7,o58,o27,o28,o7,o8,o31,o7,o32,o33,o34,o35,o6,o36,o37,o38,o39,o6,o36,o40,o41,o43,o6,o36,o44,o45,o46,o6,o36,o47,o48,o50,o51,o7,o52,o53,o54,o55,o56,o59,o60,(o61 P),o7,o62,o63,o64,o7,o8,o65,o7,o66,o67,o68,o7,(o69 P),o70,o71,o72,o73,o74,o75,o76,o6,(⟨(.ref 83),(some 90),(.dict #[] 0),#[]⟩:Obj),(⟨(.type qCr),none,(.fields #[i0,(Iz 128),i1]),#[]⟩:Obj)]
noncomputable def S7 (w:World) (os:OsState):SharedT:=⟨bt 12 (L7 w.params),93,{},#[],⟨0,0,0,0⟩,908,os⟩
noncomputable def L8 (P:Params):List Obj:=[(o0 P),(o1 P),(o2 P),(o57 P),o4,o5,o6,o7,o8,o9,o10,(o11 P),o12,(o13 P),o14,o7,o15,o16,o17,o18,(o19 P),(o20 P),o21,o22,o23,o24,o25,o26,o7,o58,o27,o28,o7,o8,o31,o7,o32,o33,o34,o35,o6,o36,o37,o38,o39,o6,o36,o40,o41,o43,o6,o36,o44,o45,o46,o6,o36,o47,o48,o50,o51,o7,o52,o53,o54,o55,o56,o59,o60,(o61 P),o7,o62,o63,o64,o7,o8,o65,o7,o66,o67,o68,o7,(o69 P),o70,o71,o72,o73,o74,o75,o76,o6,(⟨(.ref 83),(some 90),(.dict #[e0,e1,e2,e3,e4,e5,e6,e7,e8,e9,e10,e11,e12,e13,e14,e15] 16),#[]⟩:Obj),(⟨(.type qCr),none,(.fields #[i16,(Iz 112),i1]),#[]⟩:Obj)]
noncomputable def S8 (w:World) (os:OsState):SharedT:=⟨bt 12 (L8 w.params),93,{},#[],⟨0,0,0,0⟩,940,os⟩
noncomputable def L9 (P:Params):List Obj:=[(o0 P),(o1 P),(o2 P),(o57 P),o4,o5,o6,o7,o8,o9,o10,(o11 P),o12,(o13 P),o14,o7,o15,o16,o17,o18,(o19 P),(o20 P),o21,o22,o23,o24,o25,o26,o7,o58,o27,o28,o7,o8,o31,o7,o32,o33,o34,o35,o6,o36,o37,o38,o39,o6,o36,o40,o41,o43,o6,o36,o44,o45,o46,o6,o36,o47,o48,o50,o51,o7,o52,o53,o54,o55,o56,o59,o60,(o61 P),o7,o62,o63,o64,o7,o8,o65,o7,o66,o67,o68,o7,(o69 P),o70,o71,o72,o73,o74,o75,o76,o6,(⟨(.ref 83),(some 90),(.dict #[e0,e1,e2,e3,e4,e5,e6,e7,e8,e9,e10,e11,e12,e13,e14,e15,e16,e17,e18,e19,e20,e21,e22,e23,e24,e25,e26,e27,e28,e29,e30,e31] 32),#[]⟩:Obj),(⟨(.type qCr),none,(.fields #[(Iz 32),(Iz 96),i1]),#[]⟩:Obj)]
noncomputable def S9 (w:World) (os:OsState):SharedT:=⟨bt 12 (L9 w.params),93,{},#[],⟨0,0,0,0⟩,972,os⟩
noncomputable def L10 (P:Params):List Obj:=[(o0 P),(o1 P),(o2 P),(o57 P),o4,o5,o6,o7,o8,o9,o10,(o11 P),o12,(o13 P),o14,o7,o15,o16,o17,o18,(o19 P),(o20 P),o21,o22,o23,o24,o25,o26,o7,o58,o27,o28,o7,o8,o31,o7,o32,o33,o34,o35,o6,o36,o37,o38,o39,o6,o36,o40,o41,o43,o6,o36,o44,o45,o46,o6,o36,o47,o48,o50,o51,o7,o52,o53,o54,o55,o56,o59,o60,(o61 P),o7,o62,o63,o64,o7,o8,o65,o7,o66,o67,o68,o7,(o69 P),o70,o71,o72,o73,o74,o75,o76,o6,(⟨(.ref 83),(some 90),(.dict #[e0,e1,e2,e3,e4,e5,e6,e7,e8,e9,e10,e11,e12,e13,e14,e15,e16,e17,e18,e19,e20,e21,e22,e23,e24,e25,e26,e27,e28,e29,e30,e31,e32,e33,e34,e35,e36,e37,e38,e39,e40,e41,e42,e43,e44,e45,e46,e47] 48),#[]⟩:Obj),(⟨(.type qCr),none,(.fields #[(Iz 48),(Iz 80),i1]),#[]⟩:Obj)]
noncomputable def S10 (w:World) (os:OsState):SharedT:=⟨bt 12 (L10 w.params),93,{},#[],⟨0,0,0,0⟩,1004,os⟩
noncomputable def L11 (P:Params):List Obj:=[(o0 P),(o1 P),(o2 P),(o57 P),o4,o5,o6,o7,o8,o9,o10,(o11 P),o12,(o13 P),o14,o7,o15,o16,o17,o18,(o19 P),(o20 P),o21,o22,o23,o24,o25,o26,o7,o58,o27,o28,o7,o8,o31,o7,o32,o33,o34,o35,o6,o36,o37,o38,o39,o6,o36,o40,o41,o43,o6,o36,o44,o45,o46,o6,o36,o47,o48,o50,o51,o7,o52,o53,o54,o55,o56,o59,o60,(o61 P),o7,o62,o63,o64,o7,o8,o65,o7,o66,o67,o68,o7,(o69 P),o70,o71,o72,o73,o74,o75,o76,o6,(⟨(.ref 83),(some 90),(.dict #[e0,e1,e2,e3,e4,e5,e6,e7,e8,e9,e10,e11,e12,e13,e14,e15,e16,e17,e18,e19,e20,e21,e22,e23,e24,e25,e26,e27,e28,e29,e30,e31,e32,e33,e34,e35,e36,e37,e38,e39,e40,e41,e42,e43,e44,e45,e46,e47,e48,e49,e50,e51,e52,e53,e54,e55,e56,e57,e58,e59,e60,e61,e62,e63] 64),#[]⟩:Obj),(⟨(.type qCr),none,(.fields #[(Iz 64),(Iz 64),i1]),#[]⟩:Obj)]
noncomputable def S11 (w:World) (os:OsState):SharedT:=⟨bt 12 (L11 w.params),93,{},#[],⟨0,0,0,0⟩,1036,os⟩
noncomputable def L12 (P:Params):List Obj:=[(o0 P),(o1 P),(o2 P),(o57 P),o4,o5,o6,o7,o8,o9,o10,(o11 P),o12,(o13 P),o14,o7,o15,o16,o17,o18,(o19 P),(o20 P),o21,o22,o23,o24,o25,o26,o7,o58,o27,o28,o7,o8,o31,o7,o32,o33,o34,o35,o6,o36,o37,o38,o39,o6,o36,o40,o41,o43,o6,o36,o44,o45,o46,o6,o36,o47,o48,o50,o51,o7,o52,o53,o54,o55,o56,o59,o60,(o61 P),o7,o62,o63,o64,o7,o8,o65,o7,o66,o67,o68,o7,(o69 P),o70,o71,o72,o73,o74,o75,o76,o6,(⟨(.ref 83),(some 90),(.dict #[e0,e1,e2,e3,e4,e5,e6,e7,e8,e9,e10,e11,e12,e13,e14,e15,e16,e17,e18,e19,e20,e21,e22,e23,e24,e25,e26,e27,e28,e29,e30,e31,e32,e33,e34,e35,e36,e37,e38,e39,e40,e41,e42,e43,e44,e45,e46,e47,e48,e49,e50,e51,e52,e53,e54,e55,e56,e57,e58,e59,e60,e61,e62,e63,e64,e65,e66,e67,e68,e69,e70,e71,e72,e73,e74,e75,e76,e77,e78,e79] 80),#[]⟩:Obj),(⟨(.type qCr),none,(.fields #[(Iz 80),(Iz 48),i1]),#[]⟩:Obj)]
noncomputable def S12 (w:World) (os:OsState):SharedT:=⟨bt 12 (L12 w.params),93,{},#[],⟨0,0,0,0⟩,1068,os⟩
noncomputable def L13 (P:Params):List Obj:=[(o0 P),(o1 P),(o2 P),(o57 P),o4,o5,o6,o7,o8,o9,o10,(o11 P),o12,(o13 P),o14,o7,o15,o16,o17,o18,(o19 P),(o20 P),o21,o22,o23,o24,o25,o26,o7,o58,o27,o28,o7,o8,o31,o7,o32,o33,o34,o35,o6,o36,o37,o38,o39,o6,o36,o40,o41,o43,o6,o36,o44,o45,o46,o6,o36,o47,o48,o50,o51,o7,o52,o53,o54,o55,o56,o59,o60,(o61 P),o7,o62,o63,o64,o7,o8,o65,o7,o66,o67,o68,o7,(o69 P),o70,o71,o72,o73,o74,o75,o76,o6,(⟨(.ref 83),(some 90),(.dict #[e0,e1,e2,e3,e4,e5,e6,e7,e8,e9,e10,e11,e12,e13,e14,e15,e16,e17,e18,e19,e20,e21,e22,e23,e24,e25,e26,e27,e28,e29,e30,e31,e32,e33,e34,e35,e36,e37,e38,e39,e40,e41,e42,e43,e44,e45,e46,e47,e48,e49,e50,e51,e52,e53,e54,e55,e56,e57,e58,e59,e60,e61,e62,e63,e64,e65,e66,e67,e68,e69,e70,e71,e72,e73,e74,e75,e76,e77,e78,e79,e80,e81,e82,e83,e84,e85,e86,e87,e88,e89,e90,e91,e92,e93,e94,e95] 96),#[]⟩:Obj),(⟨(.type qCr),none,(.fields #[(Iz 96),(Iz 32),i1]),#[]⟩:Obj)]
noncomputable def S13 (w:World) (os:OsState):SharedT:=⟨bt 12 (L13 w.params),93,{},#[],⟨0,0,0,0⟩,1100,os⟩
noncomputable def L14 (P:Params):List Obj:=[(o0 P),(o1 P),(o2 P),(o57 P),o4,o5,o6,o7,o8,o9,o10,(o11 P),o12,(o13 P),o14,o7,o15,o16,o17,o18,(o19 P),(o20 P),o21,o22,o23,o24,o25,o26,o7,o58,o27,o28,o7,o8,o31,o7,o32,o33,o34,o35,o6,o36,o37,o38,o39,o6,o36,o40,o41,o43,o6,o36,o44,o45,o46,o6,o36,o47,o48,o50,o51,o7,o52,o53,o54,o55,o56,o59,o60,(o61 P),o7,o62,o63,o64,o7,o8,o65,o7,o66,o67,o68,o7,(o69 P),o70,o71,o72,o73,o74,o75,o76,o6,(⟨(.ref 83),(some 90),(.dict #[e0,e1,e2,e3,e4,e5,e6,e7,e8,e9,e10,e11,e12,e13,e14,e15,e16,e17,e18,e19,e20,e21,e22,e23,e24,e25,e26,e27,e28,e29,e30,e31,e32,e33,e34,e35,e36,e37,e38,e39,e40,e41,e42,e43,e44,e45,e46,e47,e48,e49,e50,e51,e52,e53,e54,e55,e56,e57,e58,e59,e60,e61,e62,e63,e64,e65,e66,e67,e68,e69,e70,e71,e72,e73,e74,e75,e76,e77,e78,e79,e80,e81,e82,e83,e84,e85,e86,e87,e88,e89,e90,e91,e92,e93,e94,e95,e96,e97,e98,e99,qRu,qRt,qRs,qRr,qRq,qRp,qRo,qRn,qRm,qRl,qRk,qRj] 112),#[]⟩:Obj),(⟨(.type qCr),none,(.fields #[(Iz 112),i16,i1]),#[]⟩:Obj)]
noncomputable def S14 (w:World) (os:OsState):SharedT:=⟨bt 12 (L14 w.params),93,{},#[],⟨0,0,0,0⟩,1132,os⟩
noncomputable def L15 (P:Params):List Obj:=[(o0 P),(o1 P),(o2 P),(o57 P),o4,o5,o6,o7,o8,o9,o10,(o11 P),o12,(o13 P),o14,o7,o15,o16,o17,o18,(o19 P),(o20 P),o21,o22,o23,o24,o25,o26,o7,o58,o27,o28,o7,o8,o31,o7,o32,o33,o34,o35,o6,o36,o37,o38,o39,o6,o36,o40,o41,o43,o6,o36,o44,o45,o46,o6,o36,o47,o48,o50,o51,o7,o52,o53,o54,o55,o56,o59,o60,(o61 P),o7,o62,o63,o64,o7,o8,o65,o7,o66,o67,o68,o7,(o69 P),o70,o71,o72,o73,o74,o75,o76,o6,(⟨(.ref 83),(some 90),(.dict #[e0,e1,e2,e3,e4,e5,e6,e7,e8,e9,e10,e11,e12,e13,e14,e15,e16,e17,e18,e19,e20,e21,e22,e23,e24,e25,e26,e27,e28,e29,e30,e31,e32,e33,e34,e35,e36,e37,e38,e39,e40,e41,e42,e43,e44,e45,e46,e47,e48,e49,e50,e51,e52,e53,e54,e55,e56,e57,e58,e59,e60,e61,e62,e63,e64,e65,e66,e67,e68,e69,e70,e71,e72,e73,e74,e75,e76,e77,e78,e79,e80,e81,e82,e83,e84,e85,e86,e87,e88,e89,e90,e91,e92,e93,e94,e95,e96,e97,e98,e99,qRu,qRt,qRs,qRr,qRq,qRp,qRo,qRn,qRm,qRl,qRk,qRj,qYa,qXz,qXy,qXx,qXw,qXv,qXu,qXt,qXs,qXr,qXq,⟨(.ofNat 123),(Jz 123 1154),(Jz 120 907)⟩,qXp,⟨(.ofNat 125),(Jz 125 1158),(Jz 120 907)⟩,qXo,qXn] 128),#[]⟩:Obj),o94]
noncomputable def S15 (w:World) (os:OsState):SharedT:=⟨bt 12 (L15 w.params),93,{},#[],⟨0,0,0,0⟩,1164,os⟩
noncomputable def L16 (P:Params):List Obj:=[(o0 P),(o1 P),(o2 P),(o95 P),o4,o5,o6,o7,o8,o9,o10,(o11 P),o12,(o13 P),o14,o7,o15,o16,o17,o18,(o19 P),(o20 P),o21,o22,o23,o24,o25,o26,o7,o58,o27,o28,o7,o8,o31,o7,o32,o33,o34,o35,o6,o36,o37,o38,o39,o6,o36,o40,o41,o43,o6,o36,o44,o45,o46,o6,o36,o47,o48,o50,o51,o7,o52,o53,o54,o55,o56,o59,o60,(o61 P),o7,o62,o63,o64,o7,o8,o65,o7,o66,o67,o68,o7,(o69 P),o70,o71,o72,o73,o74,o75,o76,o6,(⟨(.ref 83),(some 90),(.dict #[e0,e1,e2,e3,e4,e5,e6,e7,e8,e9,e10,e11,e12,e13,e14,e15,e16,e17,e18,e19,e20,e21,e22,e23,e24,e25,e26,e27,e28,e29,e30,e31,e32,e33,e34,e35,e36,e37,e38,e39,e40,e41,e42,e43,e44,e45,e46,e47,e48,e49,e50,e51,e52,e53,e54,e55,e56,e57,e58,e59,e60,e61,e62,e63,e64,e65,e66,e67,e68,e69,e70,e71,e72,e73,e74,e75,e76,e77,e78,e79,e80,e81,e82,e83,e84,e85,e86,e87,e88,e89,e90,e91,e92,e93,e94,e95,e96,e97,e98,e99,qRu,qRt,qRs,qRr,qRq,qRp,qRo,qRn,qRm,qRl,qRk,qRj,qYa,qXz,qXy,qXx,qXw,qXv,qXu,qXt,qXs,qXr,qXq,⟨(.ofNat 123),(Jz 123 1154),(Jz 120 907)⟩,qXp,⟨(.ofNat 125),(Jz 125 1158),(Jz 120 907)⟩,qXo,qXn] 128),#[]⟩:Obj),o94,o7,o96]
noncomputable def S16 (w:World) (os:OsState):SharedT:=⟨bt 12 (L16 w.params),95,{},#[],⟨0,0,0,0⟩,1165,os⟩
noncomputable def L17 (P:Params):List Obj:=[(o0 P),(o1 P),(o2 P),(o95 P),o4,o5,o6,o7,o8,o9,o10,(o11 P),o12,(o13 P),o14,o7,o15,o16,o17,o18,(o19 P),(o20 P),o21,o22,o23,o24,o25,o26,o7,(⟨.none,none,(.fields #[i2,i0,(.ref 37),i15,i0,(.ref 72),(Iz 20),i13,(.ref 98)]),#[]⟩:Obj),o27,o28,o7,o8,o31,o7,o32,o33,o34,o35,o6,o36,o37,o38,o39,o6,o36,o40,o41,o43,o6,o36,o44,o45,o46,o6,o36,o47,o48,o50,o51,o7,o52,o53,o54,o55,o56,o59,o60,(o61 P),o7,o62,o63,o64,o7,o8,o65,o7,o66,o67,o68,o7,(o69 P),o70,o71,o72,o73,o74,o75,o76,o6,(⟨(.ref 83),(some 90),(.dict #[e0,e1,e2,e3,e4,e5,e6,e7,e8,e9,e10,e11,e12,e13,e14,e15,e16,e17,e18,e19,e20,e21,e22,e23,e24,e25,e26,e27,e28,e29,e30,e31,e32,e33,e34,e35,e36,e37,e38,e39,zKr,e41,e42,e43,e44,e45,e46,e47,e48,e49,e50,e51,e52,e53,e54,e55,e56,e57,e58,e59,e60,e61,e62,e63,e64,e65,e66,e67,e68,e69,e70,e71,e72,e73,e74,e75,e76,e77,e78,e79,e80,e81,e82,e83,e84,e85,e86,e87,e88,e89,e90,zKq,e92,e93,e94,e95,e96,e97,e98,e99,qRu,qRt,qRs,qRr,qRq,qRp,qRo,qRn,qRm,qRl,qRk,qRj,qYa,qXz,qXy,qXx,qXw,qXv,qXu,qXt,qXs,qXr,qXq,zKp,qXp,⟨(.ofNat 125),(Jz 125 1158),(Jz 120 907)⟩,qXo,qXn] 128),#[]⟩:Obj),o94,o7,o96,o99,o7,o8,qQp,(qQo P),qQn,qQm,qQl,qQk,qQj,qQi,o7,qQh,o7,qQg]
noncomputable def S17 (w:World) (os:OsState):SharedT:=⟨bt 12 (L17 w.params),110,{},#[GenState.finished],⟨0,0,0,0⟩,1195,os⟩
noncomputable def L18 (P:Params):List Obj:=[(o0 P),(o1 P),(o2 P),(o95 P),o4,o5,o6,o7,o8,o9,o10,(o11 P),o12,(o13 P),o14,o7,o15,o16,o17,o18,(o19 P),(o20 P),o21,o22,o23,o24,o25,o26,o7,(⟨.none,none,(.fields #[i2,i0,(.ref 37),i15,i0,(.ref 72),(Iz 20),i13,(.ref 98),i21,i13,(.ref 113)]),#[]⟩:Obj),o27,o28,o7,o8,o31,o7,o32,o33,o34,o35,o6,o36,o37,o38,o39,o6,o36,o40,o41,o43,o6,o36,o44,o45,o46,o6,o36,o47,o48,o50,o51,o7,o52,o53,o54,o55,o56,o59,o60,(o61 P),o7,o62,o63,o64,o7,o8,o65,o7,o66,o67,o68,o7,(o69 P),o70,o71,o72,o73,o74,o75,o76,o6,(⟨(.ref 83),(some 90),(.dict #[e0,e1,e2,e3,e4,e5,e6,e7,e8,e9,e10,e11,e12,e13,e14,e15,e16,e17,e18,e19,e20,e21,e22,e23,e24,e25,e26,e27,e28,e29,e30,e31,e32,e33,e34,e35,e36,e37,e38,e39,zKr,⟨(.ofNat 41),(Jz 41 990),(Jz 41 1211)⟩,e42,e43,e44,e45,e46,e47,e48,e49,e50,e51,e52,e53,e54,e55,e56,e57,e58,e59,e60,e61,e62,e63,e64,e65,e66,e67,e68,e69,e70,e71,e72,e73,e74,e75,e76,e77,e78,e79,e80,e81,e82,e83,e84,e85,e86,e87,e88,e89,e90,zKq,e92,⟨(.ofNat 93),(Jz 93 1094),(Jz 41 1223)⟩,e94,e95,e96,e97,e98,e99,qRu,qRt,qRs,qRr,qRq,qRp,qRo,qRn,qRm,qRl,qRk,qRj,qYa,qXz,qXy,qXx,qXw,qXv,qXu,qXt,qXs,qXr,qXq,zKp,qXp,⟨(.ofNat 125),(Jz 125 1158),(Jz 41 1217)⟩,qXo,qXn] 128),#[]⟩:Obj),o94,o7,o96,o99,o7,o8,qQp,(qQo P),qQn,qQm,qQl,qQk,qQj,qQi,o7,qQh,o7,qQg,o99,o7,o8,qVk,(qVj P),qVi,qVh,qVg,qVf,qVe,qVd,o7,qVc,o7,qVb]
noncomputable def S18 (w:World) (os:OsState):SharedT:=⟨bt 12 (L18 w.params),125,{},#[GenState.finished,GenState.finished],⟨0,0,0,0⟩,1225,os⟩
noncomputable def L19 (P:Params):List Obj:=[(o0 P),(o1 P),(o2 P),(o95 P),o4,o5,o6,o7,o8,o9,o10,(o11 P),o12,(o13 P),o14,o7,o15,o16,o17,o18,(o19 P),(o20 P),o21,o22,o23,o24,o25,o26,o7,(⟨.none,none,(.fields #[i2,i0,(.ref 37),i15,i0,(.ref 72),(Iz 20),i13,(.ref 98),i21,i13,(.ref 113),(Iz 22),i13,(.ref 128)]),#[]⟩:Obj),o27,o28,o7,o8,o31,o7,o32,o33,o34,o35,o6,o36,o37,o38,o39,o6,o36,o40,o41,o43,o6,o36,o44,o45,o46,o6,o36,o47,o48,o50,o51,o7,o52,o53,o54,o55,o56,o59,o60,(o61 P),o7,o62,o63,o64,o7,o8,o65,o7,o66,o67,o68,o7,(o69 P),o70,o71,o72,o73,o74,o75,o76,o6,qVa,o94,o7,o96,o99,o7,o8,qQp,(qQo P),qQn,qQm,qQl,qQk,qQj,qQi,o7,qQh,o7,qQg,o99,o7,o8,qVk,(qVj P),qVi,qVh,qVg,qVf,qVe,qVd,o7,qVc,o7,qVb,zDu,o7,o8,zDt,(zDs P),zDr,zDq,zDp,zDo,zDn,zDm,zDl,zDk,o7,zDj,o7,zDi]
noncomputable def S19 (w:World) (os:OsState):SharedT:=⟨bt 12 (L19 w.params),142,{},#[GenState.finished,GenState.finished,GenState.finished],⟨0,0,0,0⟩,1262,os⟩
noncomputable def L20 (P:Params):List Obj:=[(o0 P),(o1 P),(o2 P),(zNc P),o4,o5,o6,o7,o8,o9,o10,(o11 P),o12,(o13 P),o14,o7,o15,o16,o17,o18,(o19 P),(o20 P),o21,o22,o23,o24,o25,o26,o7,(⟨.none,none,(.fields #[i2,i0,(.ref 37),i15,i0,(.ref 72),(Iz 20),i13,(.ref 98),i21,i13,(.ref 113),(Iz 22),i13,(.ref 128),i23,i0,(.ref 147)]),#[]⟩:Obj),o27,o28,o7,o8,o31,o7,o32,o33,o34,o35,o6,o36,o37,o38,o39,o6,o36,o40,o41,o43,o6,o36,o44,o45,o46,o6,o36,o47,o48,o50,o51,o7,o52,o53,o54,o55,o56,o59,o60,(o61 P),o7,o62,o63,o64,o7,o8,o65,o7,o66,o67,o68,o7,(o69 P),o70,o71,o72,o73,o74,o75,o76,o6,qVa,o94,o7,o96,o99,o7,o8,qQp,(qQo P),qQn,qQm,qQl,qQk,qQj,qQi,o7,qQh,o7,qQg,o99,o7,o8,qVk,(qVj P),qVi,qVh,qVg,qVf,qVe,qVd,o7,qVc,o7,qVb,zDu,o7,o8,zDt,(zDs P),zDr,zDq,zDp,zDo,zDn,zDm,zDl,zDk,o7,zDj,o7,zDi,o7,o60,(zJs P),o7,zJr,zJq,zJp,o7,o8,zDh,o7,zJo,zDg,zDf,o7,o8,zDe,o7,zJn,zDd,zDc,o7,o8,zDb,o7,zJm,zDa,zCz,o7,o8,zCy,o7,zJl,zCx,zCw,o7,o8,zCv,o7,zJk,zCu,zCt,o7,o8,zCs,o7,zJj,zCr,zCq,o7,o8,zCp,o7,zJi,zCo,zCn,o7,o8,zCm,o7,zJh,zCl,zCk,o7,o8,zCj,o7,zJg,zCi,zCh,o7,o8,zCg,o7,zJf,zCf,zCe,o7,o8,zCd,o7,zJe,zCc,zCb,o7,o8,zCa,o7,zJd,zBz,zBy,o7,o8,zBx,o7,zJc,zBw,zBv,o7,o8,zBu,o7,zJb,zBt,zBs,zBr,(zBq P),zBp,zBo,zBn,zJa,zIz]
noncomputable def S20 (w:World) (os:OsState):SharedT:=⟨bt 12 (L20 w.params),254,{},#[GenState.finished,GenState.finished,GenState.finished],⟨0,0,0,0⟩,1428,os⟩
noncomputable def L21 (P:Params):List Obj:=[(o0 P),(o1 P),(o2 P),(zIy P),o4,o5,o6,o7,o8,o9,o10,(o11 P),o12,(o13 P),o14,o7,o15,o16,o17,o18,(o19 P),(o20 P),o21,o22,o23,o24,o25,o26,o7,(⟨.none,none,(.fields #[i2,i0,(.ref 37),i15,i0,(.ref 72),(Iz 20),i13,(.ref 98),i21,i13,(.ref 113),(Iz 22),i13,(.ref 128),i23,i0,(.ref 147),(Iz 249),i0,(.ref 259),(Iz 251),i0,(.ref 266),(Iz 255),i0,(.ref 273),(Iz 263),i0,(.ref 278),(Iz 266),i0,(.ref 283)]),#[]⟩:Obj),o27,o28,o7,o8,o31,o7,o32,o33,o34,o35,o6,o36,o37,o38,o39,o6,o36,o40,o41,o43,o6,o36,o44,o45,o46,o6,o36,o47,o48,o50,o51,o7,o52,o53,o54,o55,o56,o59,o60,(o61 P),o7,o62,o63,o64,o7,o8,o65,o7,o66,o67,o68,o7,(o69 P),o70,o71,o72,o73,o74,o75,o76,o6,qVa,o94,o7,o96,o99,o7,o8,qQp,(qQo P),qQn,qQm,qQl,qQk,qQj,qQi,o7,qQh,o7,qQg,o99,o7,o8,qVk,(qVj P),qVi,qVh,qVg,qVf,qVe,qVd,o7,qVc,o7,qVb,zDu,o7,o8,zDt,(zDs P),zDr,zDq,zDp,zDo,zDn,zDm,zDl,zDk,o7,zDj,o7,zDi,o7,o60,(zJs P),o7,zJr,zJq,zJp,o7,o8,zDh,o7,zJo,zDg,zDf,o7,o8,zDe,o7,zJn,zDd,zDc,o7,o8,zDb,o7,zJm,zDa,zCz,o7,o8,zCy,o7,zJl,zCx,zCw,o7,o8,zCv,o7,zJk,zCu,zCt,o7,o8,zCs,o7,zJj,zCr,zCq,o7,o8,zCp,o7,zJi,zCo,zCn,o7,o8,zCm,o7,zJh,zCl,zCk,o7,o8,zCj,o7,zJg,zCi,zCh,o7,o8,zCg,o7,zJf,zCf,zCe,o7,o8,zCd,o7,zJe,zCc,zCb,o7,o8,zCa,o7,zJd,zBz,zBy,o7,o8,zBx,o7,zJc,zBw,zBv,o7,o8,zBu,o7,zJb,zBt,zBs,zBr,(zBq P),zBp,zBo,zBn,zJa,zIz,o7,o8,zIx,o7,(⟨.none,none,(Fz (nth TB 19) qCx qCx),#[]⟩:Obj),zIw,zIv,o7,o8,zIu,o7,(⟨.none,none,(Fz (nth TB 20) qCw qCw),#[]⟩:Obj),zIt,zIs,o7,o8,zIr,o7,(⟨.none,none,(Fz (nth TB 21) qCv qCv),#[]⟩:Obj),zIq,zIp,o7,o8,(⟨.none,none,(Fz (nth TB 22) qCu qCu),#[]⟩:Obj),zIo,zIn,o7,o8,(⟨.none,none,(Fz (nth TB 23) qCt qCt),#[]⟩:Obj),zIm,zIl]
noncomputable def S21 (w:World) (os:OsState):SharedT:=⟨bt 12 (L21 w.params),285,{},#[GenState.finished,GenState.finished,GenState.finished],⟨0,0,0,0⟩,1464,os⟩
noncomputable def L22 (P:Params):List Obj:=[(o0 P),(o1 P),(o2 P),(zIy P),o4,o5,o6,o7,o8,o9,o10,(o11 P),o12,(o13 P),o14,o7,o15,o16,o17,o18,(o19 P),(o20 P),o21,o22,o23,o24,o25,o26,o7,(⟨.none,none,(.fields #[i2,i0,(.ref 37),i15,i0,(.ref 72),(Iz 20),i13,(.ref 98),i21,i13,(.ref 113),(Iz 22),i13,(.ref 128),i23,i0,(.ref 147),(Iz 249),i0,(.ref 259),(Iz 251),i0,(.ref 266),(Iz 255),i0,(.ref 273),(Iz 263),i0,(.ref 278),(Iz 266),i0,(.ref 283)]),#[]⟩:Obj),o27,o28,o7,o8,o31,o7,o32,o33,o34,o35,o6,o36,o37,o38,o39,o6,o36,o40,o41,o43,o6,o36,o44,o45,o46,o6,o36,o47,o48,o50,o51,o7,o52,o53,o54,o55,o56,o59,o60,(o61 P),o7,o62,o63,o64,o7,o8,o65,o7,o66,o67,o68,o7,(o69 P),o70,o71,o72,o73,o74,o75,o76,o6,qVa,o94,o7,o96,o99,o7,o8,qQp,(qQo P),qQn,qQm,qQl,qQk,qQj,qQi,o7,qQh,o7,qQg,o99,o7,o8,qVk,(qVj P),qVi,qVh,qVg,qVf,qVe,qVd,o7,qVc,o7,qVb,zDu,o7,o8,zDt,(zDs P),zDr,zDq,zDp,zDo,zDn,zDm,zDl,zDk,o7,zDj,o7,zDi,o7,o60,(zJs P),o7,zJr,zJq,zJp,o7,o8,zDh,o7,zJo,zDg,zDf,o7,o8,zDe,o7,zJn,zDd,zDc,o7,o8,zDb,o7,zJm,zDa,zCz,o7,o8,zCy,o7,zJl,zCx,zCw,o7,o8,zCv,o7,zJk,zCu,zCt,o7,o8,zCs,o7,zJj,zCr,zCq,o7,o8,zCp,o7,zJi,zCo,zCn,o7,o8,zCm,o7,zJh,zCl,zCk,o7,o8,zCj,o7,zJg,zCi,zCh,o7,o8,zCg,o7,zJf,zCf,zCe,o7,o8,zCd,o7,zJe,zCc,zCb,o7,o8,zCa,o7,zJd,zBz,zBy,o7,o8,zBx,o7,zJc,zBw,zBv,o7,o8,zBu,o7,zJb,zBt,zBs,zBr,(zBq P),zBp,zBo,zBn,zJa,zIz,o7,o8,zIx,o7,(⟨.none,none,(Fz (nth TB 19) qCx qCx),#[]⟩:Obj),zIw,zIv,o7,o8,zIu,o7,(⟨.none,none,(Fz (nth TB 20) qCw qCw),#[]⟩:Obj),zIt,zIs,o7,o8,zIr,o7,(⟨.none,none,(Fz (nth TB 21) qCv qCv),#[]⟩:Obj),zIq,zIp,o7,o8,(⟨.none,none,(Fz (nth TB 22) qCu qCu),#[]⟩:Obj),zIo,zIn,o7,o8,(⟨.none,none,(Fz (nth TB 23) qCt qCt),#[]⟩:Obj),zIm,zIl]
noncomputable def S22 (w:World) (os:OsState):SharedT:=⟨bt 12 (L22 w.params),285,{},#[GenState.finished,GenState.finished,GenState.finished],⟨0,0,0,0⟩,1464,os⟩
theorem f0:∀ w:World,(fun os=>Fast.tw10110043849684766642 Fast.tw14364793385576792824 Challenge.pw_dm0167_07 w 28 (some (.ref 6)) 1 383 (S2 w os) (kP l0 ⟨0,0,0,0⟩))=fun os=>some (.next,(S3 w os),cE,⟨7,0,7,10⟩):=fun w=>by kernel_rfl
theorem p0 (w:World) (os:OsState):segRun treeTable Challenge.pw_dm0167_07 w 28 (some (.ref 6)) 1 383 (S2 w os).abs (piecesOf l0 env cE ⟨0,0,0,0⟩ [topFrame q])=some (.next,(S3 w os).abs,cE,⟨7,0,7,10⟩):=segRun_of ((by rw [vJ,Fast.te10110043849684766642,Fast.te14364793385576792824]:_=Fast.tw10110043849684766642 Fast.tw14364793385576792824 Challenge.pw_dm0167_07 w 28 (some (.ref 6)) 1 383 (S2 w os) (kP l0 ⟨0,0,0,0⟩)).trans (congrFun (f0 w) os))
theorem f1:∀ w:World,(fun os=>Fast.tw10110043849684766642 Fast.tw14364793385576792824 Challenge.pw_dm0167_07 w 28 (some (.ref 6)) 1 392 (S3 w os) (kP l1 ⟨7,0,7,10⟩))=fun os=>some (.next,(S4 w os),cE,⟨9,0,9,10⟩):=fun w=>by kernel_rfl
theorem p1 (w:World) (os:OsState):segRun treeTable Challenge.pw_dm0167_07 w 28 (some (.ref 6)) 1 392 (S3 w os).abs (piecesOf l1 env cE ⟨7,0,7,10⟩ [topFrame q])=some (.next,(S4 w os).abs,cE,⟨9,0,9,10⟩):=segRun_of ((by rw [vJ,Fast.te10110043849684766642,Fast.te14364793385576792824]:_=Fast.tw10110043849684766642 Fast.tw14364793385576792824 Challenge.pw_dm0167_07 w 28 (some (.ref 6)) 1 392 (S3 w os) (kP l1 ⟨7,0,7,10⟩)).trans (congrFun (f1 w) os))
theorem f2:∀ w:World,(fun os=>Fast.tw10110043849684766642 Fast.tw14364793385576792824 Challenge.pw_dm0167_07 w 28 (some (.ref 6)) 1 260 (S4 w os) (kP l2 ⟨9,0,9,10⟩))=fun os=>some (.next,(S5 w os),cE,⟨14,0,14,16⟩):=(byRow2 "special-get-raises" (fun w=>by kernel_rfl) (fun w=>by kernel_rfl))
theorem p2 (w:World) (os:OsState):segRun treeTable Challenge.pw_dm0167_07 w 28 (some (.ref 6)) 1 260 (S4 w os).abs (piecesOf l2 env cE ⟨9,0,9,10⟩ [topFrame q])=some (.next,(S5 w os).abs,cE,⟨14,0,14,16⟩):=segRun_of ((by rw [vJ,Fast.te10110043849684766642,Fast.te14364793385576792824]:_=Fast.tw10110043849684766642 Fast.tw14364793385576792824 Challenge.pw_dm0167_07 w 28 (some (.ref 6)) 1 260 (S4 w os) (kP l2 ⟨9,0,9,10⟩)).trans (congrFun (f2 w) os))
theorem f3:∀ w:World,(fun os=>Fast.tw10110043849684766642 Fast.tw14364793385576792824 Challenge.pw_dm0167_07 w 28 (some (.ref 6)) 1 226 (S5 w os) (kP l3 ⟨14,0,14,16⟩))=fun os=>some (.next,(S6 w os),cE,⟨15,0,18,18⟩):=fun w=>by kernel_rfl
theorem p3 (w:World) (os:OsState):segRun treeTable Challenge.pw_dm0167_07 w 28 (some (.ref 6)) 1 226 (S5 w os).abs (piecesOf l3 env cE ⟨14,0,14,16⟩ [topFrame q])=some (.next,(S6 w os).abs,cE,⟨15,0,18,18⟩):=segRun_of ((by rw [vJ,Fast.te10110043849684766642,Fast.te14364793385576792824]:_=Fast.tw10110043849684766642 Fast.tw14364793385576792824 Challenge.pw_dm0167_07 w 28 (some (.ref 6)) 1 226 (S5 w os) (kP l3 ⟨14,0,14,16⟩)).trans (congrFun (f3 w) os))
noncomputable def zH (w:World) (os:OsState):Thread:=match Fast.tw10295753902157049106 Fast.tw14364793385576792824 Challenge.pw_dm0167_07 (World.withFollow w "special-get-raises" false) 28 (some (.ref 6)) 1 113 (S6 (World.withFollow w "special-get-raises" false) os) (kP l4 ⟨15,0,18,18⟩) with | some (_,t)=>t | none=>(kP l4 ⟨15,0,18,18⟩)
theorem zNn:∀ w:World,(fun os=>Fast.tw10295753902157049106 Fast.tw14364793385576792824 Challenge.pw_dm0167_07 w 28 (some (.ref 6)) 1 113 (S6 w os) (kP l4 ⟨15,0,18,18⟩))=fun os=>some ((S7 w os),zH w os):=(byRow2 "special-get-raises" (fun w=>by kernel_rfl) (fun w=>by kernel_rfl))
theorem zMz (w:World) (os:OsState):segGo treeTable Challenge.pw_dm0167_07 w 28 (some (.ref 6)) 1 113 (S6 w os).abs (piecesOf l4 env cE ⟨15,0,18,18⟩ [topFrame q])=some ((S7 w os).abs,zH w os):=segGo_of ((by rw [vJ,Fast.te10295753902157049106,Fast.te14364793385576792824]:_=Fast.tw10295753902157049106 Fast.tw14364793385576792824 Challenge.pw_dm0167_07 w 28 (some (.ref 6)) 1 113 (S6 w os) (kP l4 ⟨15,0,18,18⟩)).trans (congrFun (zNn w) os))
theorem zNm:∀ w:World,(fun os=>Fast.tw10295753902157049106 Fast.tw14364793385576792824 Challenge.pw_dm0167_07 w 28 (some (.ref 6)) 1 640 (S7 w os) (zH w os))=fun os=>some ((S8 w os),zH w os):=(byRow2 "special-get-raises" (fun w=>by kernel_rfl) (fun w=>by kernel_rfl))
theorem zMy (w:World) (os:OsState):segGo treeTable Challenge.pw_dm0167_07 w 28 (some (.ref 6)) 1 640 (S7 w os).abs (zH w os)=some ((S8 w os).abs,zH w os):=segGo_of ((by rw [Fast.te10295753902157049106,Fast.te14364793385576792824]:_=Fast.tw10295753902157049106 Fast.tw14364793385576792824 Challenge.pw_dm0167_07 w 28 (some (.ref 6)) 1 640 (S7 w os) (zH w os)).trans (congrFun (zNm w) os))
theorem zNl:∀ w:World,(fun os=>Fast.tw10295753902157049106 Fast.tw14364793385576792824 Challenge.pw_dm0167_07 w 28 (some (.ref 6)) 1 640 (S8 w os) (zH w os))=fun os=>some ((S9 w os),zH w os):=(byRow2 "special-get-raises" (fun w=>by kernel_rfl) (fun w=>by kernel_rfl))
theorem zMx (w:World) (os:OsState):segGo treeTable Challenge.pw_dm0167_07 w 28 (some (.ref 6)) 1 640 (S8 w os).abs (zH w os)=some ((S9 w os).abs,zH w os):=segGo_of ((by rw [Fast.te10295753902157049106,Fast.te14364793385576792824]:_=Fast.tw10295753902157049106 Fast.tw14364793385576792824 Challenge.pw_dm0167_07 w 28 (some (.ref 6)) 1 640 (S8 w os) (zH w os)).trans (congrFun (zNl w) os))
theorem zNk:∀ w:World,(fun os=>Fast.tw10295753902157049106 Fast.tw14364793385576792824 Challenge.pw_dm0167_07 w 28 (some (.ref 6)) 1 640 (S9 w os) (zH w os))=fun os=>some ((S10 w os),zH w os):=(byRow2 "special-get-raises" (fun w=>by kernel_rfl) (fun w=>by kernel_rfl))
theorem zMw (w:World) (os:OsState):segGo treeTable Challenge.pw_dm0167_07 w 28 (some (.ref 6)) 1 640 (S9 w os).abs (zH w os)=some ((S10 w os).abs,zH w os):=segGo_of ((by rw [Fast.te10295753902157049106,Fast.te14364793385576792824]:_=Fast.tw10295753902157049106 Fast.tw14364793385576792824 Challenge.pw_dm0167_07 w 28 (some (.ref 6)) 1 640 (S9 w os) (zH w os)).trans (congrFun (zNk w) os))
theorem zNj:∀ w:World,(fun os=>Fast.tw10295753902157049106 Fast.tw14364793385576792824 Challenge.pw_dm0167_07 w 28 (some (.ref 6)) 1 640 (S10 w os) (zH w os))=fun os=>some ((S11 w os),zH w os):=(byRow2 "special-get-raises" (fun w=>by kernel_rfl) (fun w=>by kernel_rfl))
theorem zMv (w:World) (os:OsState):segGo treeTable Challenge.pw_dm0167_07 w 28 (some (.ref 6)) 1 640 (S10 w os).abs (zH w os)=some ((S11 w os).abs,zH w os):=segGo_of ((by rw [Fast.te10295753902157049106,Fast.te14364793385576792824]:_=Fast.tw10295753902157049106 Fast.tw14364793385576792824 Challenge.pw_dm0167_07 w 28 (some (.ref 6)) 1 640 (S10 w os) (zH w os)).trans (congrFun (zNj w) os))
theorem zNi:∀ w:World,(fun os=>Fast.tw10295753902157049106 Fast.tw14364793385576792824 Challenge.pw_dm0167_07 w 28 (some (.ref 6)) 1 640 (S11 w os) (zH w os))=fun os=>some ((S12 w os),zH w os):=(byRow2 "special-get-raises" (fun w=>by kernel_rfl) (fun w=>by kernel_rfl))
theorem zMu (w:World) (os:OsState):segGo treeTable Challenge.pw_dm0167_07 w 28 (some (.ref 6)) 1 640 (S11 w os).abs (zH w os)=some ((S12 w os).abs,zH w os):=segGo_of ((by rw [Fast.te10295753902157049106,Fast.te14364793385576792824]:_=Fast.tw10295753902157049106 Fast.tw14364793385576792824 Challenge.pw_dm0167_07 w 28 (some (.ref 6)) 1 640 (S11 w os) (zH w os)).trans (congrFun (zNi w) os))
theorem zNh:∀ w:World,(fun os=>Fast.tw10295753902157049106 Fast.tw14364793385576792824 Challenge.pw_dm0167_07 w 28 (some (.ref 6)) 1 640 (S12 w os) (zH w os))=fun os=>some ((S13 w os),zH w os):=(byRow2 "special-get-raises" (fun w=>by kernel_rfl) (fun w=>by kernel_rfl))
theorem zMt (w:World) (os:OsState):segGo treeTable Challenge.pw_dm0167_07 w 28 (some (.ref 6)) 1 640 (S12 w os).abs (zH w os)=some ((S13 w os).abs,zH w os):=segGo_of ((by rw [Fast.te10295753902157049106,Fast.te14364793385576792824]:_=Fast.tw10295753902157049106 Fast.tw14364793385576792824 Challenge.pw_dm0167_07 w 28 (some (.ref 6)) 1 640 (S12 w os) (zH w os)).trans (congrFun (zNh w) os))
theorem zNg:∀ w:World,(fun os=>Fast.tw10295753902157049106 Fast.tw14364793385576792824 Challenge.pw_dm0167_07 w 28 (some (.ref 6)) 1 640 (S13 w os) (zH w os))=fun os=>some ((S14 w os),zH w os):=(byRow2 "special-get-raises" (fun w=>by kernel_rfl) (fun w=>by kernel_rfl))
theorem zMs (w:World) (os:OsState):segGo treeTable Challenge.pw_dm0167_07 w 28 (some (.ref 6)) 1 640 (S13 w os).abs (zH w os)=some ((S14 w os).abs,zH w os):=segGo_of ((by rw [Fast.te10295753902157049106,Fast.te14364793385576792824]:_=Fast.tw10295753902157049106 Fast.tw14364793385576792824 Challenge.pw_dm0167_07 w 28 (some (.ref 6)) 1 640 (S13 w os) (zH w os)).trans (congrFun (zNg w) os))
theorem zNf:∀ w:World,(fun os=>Fast.tw10295753902157049106 Fast.tw14364793385576792824 Challenge.pw_dm0167_07 w 28 (some (.ref 6)) 1 640 (S14 w os) (zH w os))=fun os=>some ((S15 w os),zH w os):=(byRow2 "special-get-raises" (fun w=>by kernel_rfl) (fun w=>by kernel_rfl))
theorem zMr (w:World) (os:OsState):segGo treeTable Challenge.pw_dm0167_07 w 28 (some (.ref 6)) 1 640 (S14 w os).abs (zH w os)=some ((S15 w os).abs,zH w os):=segGo_of ((by rw [Fast.te10295753902157049106,Fast.te14364793385576792824]:_=Fast.tw10295753902157049106 Fast.tw14364793385576792824 Challenge.pw_dm0167_07 w 28 (some (.ref 6)) 1 640 (S14 w os) (zH w os)).trans (congrFun (zNf w) os))
theorem zNe:∀ w:World,(fun os=>Fast.tw10110043849684766642 Fast.tw14364793385576792824 Challenge.pw_dm0167_07 w 28 (some (.ref 6)) 1 23 (S15 w os) (zH w os))=fun os=>some (.next,(S16 w os),cE,⟨19,0,19,5⟩):=fun w=>by kernel_rfl
theorem zMq (w:World) (os:OsState):segRun treeTable Challenge.pw_dm0167_07 w 28 (some (.ref 6)) 1 23 (S15 w os).abs (zH w os)=some (.next,(S16 w os).abs,cE,⟨19,0,19,5⟩):=segRun_of ((by rw [Fast.te10110043849684766642,Fast.te14364793385576792824]:_=Fast.tw10110043849684766642 Fast.tw14364793385576792824 Challenge.pw_dm0167_07 w 28 (some (.ref 6)) 1 23 (S15 w os) (zH w os)).trans (congrFun (zNe w) os))
theorem p4 (w:World) (os:OsState):segRun treeTable Challenge.pw_dm0167_07 w 28 (some (.ref 6)) 1 (113+(640+(640+(640+(640+(640+(640+(640+(640+23))))))))) (S6 w os).abs (piecesOf l4 env cE ⟨15,0,18,18⟩ [topFrame q])=some (.next,(S16 w os).abs,cE,⟨19,0,19,5⟩):=seg_go (zMz w os) (seg_go (zMy w os) (seg_go (zMx w os) (seg_go (zMw w os) (seg_go (zMv w os) (seg_go (zMu w os) (seg_go (zMt w os) (seg_go (zMs w os) (seg_go (zMr w os) (zMq w os)))))))))
theorem f5:∀ w:World,(fun os=>Fast.tw10110043849684766642 Fast.tw14364793385576792824 Challenge.pw_dm0167_07 w 28 (some (.ref 6)) 1 367 (S16 w os) (kP l5 ⟨19,0,19,5⟩))=fun os=>some (.next,(S17 w os),cE,⟨20,0,20,49⟩):=(byRow2 "comprehension-iter-twice" (byRow2 "special-get-raises" (fun w=>by kernel_rfl) (fun w=>by kernel_rfl)) (byRow2 "special-get-raises" (fun w=>by kernel_rfl) (fun w=>by kernel_rfl)))
theorem p5 (w:World) (os:OsState):segRun treeTable Challenge.pw_dm0167_07 w 28 (some (.ref 6)) 1 367 (S16 w os).abs (piecesOf l5 env cE ⟨19,0,19,5⟩ [topFrame q])=some (.next,(S17 w os).abs,cE,⟨20,0,20,49⟩):=segRun_of ((by rw [vJ,Fast.te10110043849684766642,Fast.te14364793385576792824]:_=Fast.tw10110043849684766642 Fast.tw14364793385576792824 Challenge.pw_dm0167_07 w 28 (some (.ref 6)) 1 367 (S16 w os) (kP l5 ⟨19,0,19,5⟩)).trans (congrFun (f5 w) os))
theorem f6:∀ w:World,(fun os=>Fast.tw10110043849684766642 Fast.tw14364793385576792824 Challenge.pw_dm0167_07 w 28 (some (.ref 6)) 1 367 (S17 w os) (kP l6 ⟨20,0,20,49⟩))=fun os=>some (.next,(S18 w os),cE,⟨21,0,21,49⟩):=(byRow2 "comprehension-iter-twice" (byRow2 "special-get-raises" (fun w=>by kernel_rfl) (fun w=>by kernel_rfl)) (byRow2 "special-get-raises" (fun w=>by kernel_rfl) (fun w=>by kernel_rfl)))
theorem p6 (w:World) (os:OsState):segRun treeTable Challenge.pw_dm0167_07 w 28 (some (.ref 6)) 1 367 (S17 w os).abs (piecesOf l6 env cE ⟨20,0,20,49⟩ [topFrame q])=some (.next,(S18 w os).abs,cE,⟨21,0,21,49⟩):=segRun_of ((by rw [vJ,Fast.te10110043849684766642,Fast.te14364793385576792824]:_=Fast.tw10110043849684766642 Fast.tw14364793385576792824 Challenge.pw_dm0167_07 w 28 (some (.ref 6)) 1 367 (S17 w os) (kP l6 ⟨20,0,20,49⟩)).trans (congrFun (f6 w) os))
theorem f7:∀ w:World,(fun os=>Fast.tw10110043849684766642 Fast.tw14364793385576792824 Challenge.pw_dm0167_07 w 28 (some (.ref 6)) 1 522 (S18 w os) (kP l7 ⟨21,0,21,49⟩))=fun os=>some (.next,(S19 w os),cE,⟨22,0,22,52⟩):=(byRow2 "comprehension-iter-twice" (byRow2 "special-get-raises" (fun w=>by kernel_rfl) (fun w=>by kernel_rfl)) (byRow2 "special-get-raises" (fun w=>by kernel_rfl) (fun w=>by kernel_rfl)))
theorem p7 (w:World) (os:OsState):segRun treeTable Challenge.pw_dm0167_07 w 28 (some (.ref 6)) 1 522 (S18 w os).abs (piecesOf l7 env cE ⟨21,0,21,49⟩ [topFrame q])=some (.next,(S19 w os).abs,cE,⟨22,0,22,52⟩):=segRun_of ((by rw [vJ,Fast.te10110043849684766642,Fast.te14364793385576792824]:_=Fast.tw10110043849684766642 Fast.tw14364793385576792824 Challenge.pw_dm0167_07 w 28 (some (.ref 6)) 1 522 (S18 w os) (kP l7 ⟨21,0,21,49⟩)).trans (congrFun (f7 w) os))
theorem f8:∀ w:World,(fun os=>Fast.tw10110043849684766642 Fast.tw14364793385576792824 Challenge.pw_dm0167_07 w 28 (some (.ref 6)) 1 672 (S19 w os) (kP l8 ⟨22,0,22,52⟩))=fun os=>some (.next,(S20 w os),cE,⟨23,0,247,35⟩):=fun w=>by kernel_rfl
theorem p8 (w:World) (os:OsState):segRun treeTable Challenge.pw_dm0167_07 w 28 (some (.ref 6)) 1 672 (S19 w os).abs (piecesOf l8 env cE ⟨22,0,22,52⟩ [topFrame q])=some (.next,(S20 w os).abs,cE,⟨23,0,247,35⟩):=segRun_of ((by rw [vJ,Fast.te10110043849684766642,Fast.te14364793385576792824]:_=Fast.tw10110043849684766642 Fast.tw14364793385576792824 Challenge.pw_dm0167_07 w 28 (some (.ref 6)) 1 672 (S19 w os) (kP l8 ⟨22,0,22,52⟩)).trans (congrFun (f8 w) os))
theorem f9:∀ w:World,(fun os=>Fast.tw10110043849684766642 Fast.tw14364793385576792824 Challenge.pw_dm0167_07 w 28 (some (.ref 6)) 1 150 (S20 w os) (kP l9 ⟨23,0,247,35⟩))=fun os=>some (.next,(S21 w os),cE,⟨266,0,302,15⟩):=fun w=>by kernel_rfl
theorem p9 (w:World) (os:OsState):segRun treeTable Challenge.pw_dm0167_07 w 28 (some (.ref 6)) 1 150 (S20 w os).abs (piecesOf l9 env cE ⟨23,0,247,35⟩ [topFrame q])=some (.next,(S21 w os).abs,cE,⟨266,0,302,15⟩):=segRun_of ((by rw [vJ,Fast.te10110043849684766642,Fast.te14364793385576792824]:_=Fast.tw10110043849684766642 Fast.tw14364793385576792824 Challenge.pw_dm0167_07 w 28 (some (.ref 6)) 1 150 (S20 w os) (kP l9 ⟨23,0,247,35⟩)).trans (congrFun (f9 w) os))
theorem fpre:∀ w:World,(fun os=>Fast.tw15667345088766844465 Fast.tw14364793385576792824 Challenge.pw_dm0167_07 w 28 (some (.ref 6)) 12 (S0 w os).abs (topStub Challenge.pw_dm0167_07))=fun os=>some ((S1 w os).abs,⟨Fast.tw11892475500146522536 Fast.tw14364793385576792824 cE,cE,⟨0,0,0,0⟩,[topFrame q]⟩):=fun w=>by kernel_rfl
theorem fblock:∀ w:World,(fun os=>Fast.tw14374325043358763698 Fast.tw14364793385576792824 Challenge.pw_dm0167_07 w 28 (some (.ref 6)) 1 1 (S1 w os).abs (⟨PySem.Sem.wrap (fun _=>doneF .next) deadEnd id id (Fast.tw1066825118222455980 bE env),cE,⟨0,0,0,0⟩,[topFrame q]⟩))=fun os=>some (.next,(S2 w os).abs,cE,⟨0,0,0,0⟩):=fun w=>by kernel_rfl
theorem ffin:∀ w:World,(fun os=>Fast.tw14082659384304107361 Fast.tw14364793385576792824 Challenge.pw_dm0167_07 w 28 (some (.ref 6)) 2 (S21 w os).abs (⟨doneF .next,cE,⟨266,0,302,15⟩,[topFrame q]⟩))=fun os=>some ((S22 w os).abs):=fun w=>by kernel_rfl
noncomputable def K (P:Params):Frag:=[(2,(o2 P)),(3,(zIy P)),(32,o7),(34,o31),(35,o7),(37,o33),(38,o34),(42,o37),(43,o38),(47,o40),(48,o41),(52,o44),(53,o45),(57,o47),(58,o48),(63,o53),(64,o54),(65,o55),(66,o56),(67,o59),(74,o7),(76,o65),(77,o7),(79,o67),(80,o68),(81,o7),(82,(o69 P)),(83,o70),(84,o71),(85,o72),(90,o6),(91,qVa),(149,o7),(151,zDh),(152,o7),(154,zDg),(155,zDf),(156,o7),(158,zDe),(159,o7),(161,zDd),(162,zDc),(163,o7),(165,zDb),(166,o7),(168,zDa),(169,zCz),(170,o7),(172,zCy),(173,o7),(175,zCx),(176,zCw),(177,o7),(179,zCv),(180,o7),(182,zCu),(183,zCt),(184,o7),(186,zCs),(187,o7),(189,zCr),(190,zCq),(191,o7),(193,zCp),(194,o7),(196,zCo),(197,zCn),(198,o7),(200,zCm),(201,o7),(203,zCl),(204,zCk),(205,o7),(207,zCj),(208,o7),(210,zCi),(211,zCh),(212,o7),(214,zCg),(215,o7),(217,zCf),(218,zCe),(219,o7),(221,zCd),(222,o7),(224,zCc),(225,zCb),(226,o7),(228,zCa),(229,o7),(231,zBz),(232,zBy),(233,o7),(235,zBx),(236,o7),(238,zBw),(239,zBv),(240,o7),(242,zBu),(243,o7),(245,zBt),(246,zBs),(247,zBr),(248,(zBq P)),(249,zBp),(250,zBo),(251,zBn),(254,o7),(256,zIx),(257,o7),(259,zIw),(260,zIv),(261,o7),(263,zIu),(264,o7),(266,zIt),(267,zIs),(268,o7),(270,zIr),(271,o7),(273,zIq),(274,zIp),(275,o7),(278,zIo),(279,zIn),(280,o7),(283,zIm),(284,zIl)]
noncomputable def qv:Program:=view Challenge.pw_dm0167_07 [0,1,3,4,5,6,7,8,9,10,11,12,13,17,19,20,21,22,23]
noncomputable def loose:List Str:=[yF,yE,uI,uH,qAi,qAh,qAg,qAf,qAe,qBm,qBl,qBk,qBj,qKl]
noncomputable def lv:List (Str×WData):=[(qAi,WData.int 0),(qAh,WData.int 1),(qAg,WData.int 2),(qAf,WData.int 3),(qAe,WData.int 4)]
noncomputable def kAs:List Addr:=[2,3,32,34,35,37,38,42,43,47,48,52,53,57,58,63,64,65,66,67,74,76,77,79,80,81,82,83,84,85,90,91,149,151,152,154,155,156,158,159,161,162,163,165,166,168,169,170,172,173,175,176,177,179,180,182,183,184,186,187,189,190,191,193,194,196,197,198,200,201,203,204,205,207,208,210,211,212,214,215,217,218,219,221,222,224,225,226,228,229,231,232,233,235,236,238,239,240,242,243,245,246,247,248,249,250,251,254,256,257,259,260,261,263,264,266,267,268,270,271,273,274,275,278,279,280,283,284]
theorem ppre (w:World) (os:OsState):topGo treeTable Challenge.pw_dm0167_07 w 28 (some (.ref 6)) 12 (S0 w os).abs (topStub Challenge.pw_dm0167_07)=some ((S1 w os).abs,⟨denote treeTable (.body bE env),cE,⟨0,0,0,0⟩,[topFrame q]⟩):=by
 rw [Fast.te15667345088766844465,Fast.te11892475500146522536,Fast.te14364793385576792824]
 exact congrFun (fpre w) os
theorem pblock (w:World) (os:OsState):segRun treeTable Challenge.pw_dm0167_07 w 28 (some (.ref 6)) 1 1 (S1 w os).abs (blockOf bE env cE ⟨0,0,0,0⟩ [topFrame q])=some (.next,(S2 w os).abs,cE,⟨0,0,0,0⟩):=by
 show segRun treeTable Challenge.pw_dm0167_07 w 28 (some (.ref 6)) 1 1 (S1 w os).abs (⟨(blockStart bE env).wrap (fun _=>doneF .next) deadEnd id id,cE,⟨0,0,0,0⟩,[topFrame q]⟩)=_
 rw [Fast.te14374325043358763698,Fast.te1066825118222455980,Fast.te14364793385576792824]
 exact congrFun (fblock w) os
theorem pfin (w:World) (os:OsState):topRun treeTable Challenge.pw_dm0167_07 w 28 (some (.ref 6)) 2 (S21 w os).abs ⟨doneF .next,cE,⟨266,0,302,15⟩,[topFrame q]⟩=some (S22 w os).abs:=by
 rw [Fast.te14082659384304107361,Fast.te14364793385576792824]
 exact congrFun (ffin w) os
theorem run (w:World) (os:OsState):topRun treeTable Challenge.pw_dm0167_07 w 28 (some (.ref 6)) (12+(1+(383+(392+(260+(226+((113+(640+(640+(640+(640+(640+(640+(640+(640+23)))))))))+(367+(367+(522+(672+(150+2)))))))))))) (S0 w os).abs (topStub Challenge.pw_dm0167_07)=some (S22 w os).abs:=by
 have k10:=piece_nil (env:=env) (pfin w os)
 have k9:=piece_app (rest:=([]:List Stmt)) (p9 w os) k10
 have k8:=piece_app (rest:=(l9++([]:List Stmt))) (p8 w os) k9
 have k7:=piece_app (rest:=(l8++(l9++([]:List Stmt)))) (p7 w os) k8
 have k6:=piece_app (rest:=(l7++(l8++(l9++([]:List Stmt))))) (p6 w os) k7
 have k5:=piece_app (rest:=(l6++(l7++(l8++(l9++([]:List Stmt)))))) (p5 w os) k6
 have k4:=piece_app (rest:=(l5++(l6++(l7++(l8++(l9++([]:List Stmt))))))) (p4 w os) k5
 have k3:=piece_app (rest:=(l4++(l5++(l6++(l7++(l8++(l9++([]:List Stmt)))))))) (p3 w os) k4
 have k2:=piece_app (rest:=(l3++(l4++(l5++(l6++(l7++(l8++(l9++([]:List Stmt))))))))) (p2 w os) k3
 have k1:=piece_app (rest:=(l2++(l3++(l4++(l5++(l6++(l7++(l8++(l9++([]:List Stmt)))))))))) (p1 w os) k2
 have k0:=piece_app (rest:=(l1++(l2++(l3++(l4++(l5++(l6++(l7++(l8++(l9++([]:List Stmt))))))))))) (p0 w os) k1
 exact go_top (ppre w os) (piece_block (pblock w os) k0)
noncomputable def H0 (P:Params):Heap:=absHeap (bt 12 (L0 P)) 28 {}
noncomputable def HE (P:Params):Heap:=absHeap (bt 12 ([(o0 P),(o1 P),(o2 P),(o3 P),o4,o5,o6,o7,o8,o9,o10,(zNb P),o12,(o13 P),o14,o7,o15,o16,o17,o18,(o19 P),(o20 P),o21,o22,o23,o24,o25,o26])) 28 {}
noncomputable def H1 (P:Params):Heap:=absHeap (bt 12 (L22 P)) 285 {}
theorem fopen:∀ w:World,Fast.tw10274390034422433532 Fast.tw14364793385576792824 (opening Challenge.pw_dm0167_07) w 799 (Fast.tw1435165496053646825 (opening Challenge.pw_dm0167_07)).1 (Fast.tw1435165496053646825 (opening Challenge.pw_dm0167_07)).2=some ⟨HE w.params,#[],⟨0,0,0,0⟩,276,(Fast.tw1435165496053646825 (opening Challenge.pw_dm0167_07)).1.os⟩:=fun w=>by kernel_rfl
theorem ffence:∀ w:World,(fun os=>(Fast.tw14289696077712309145 Challenge.pw_dm0167_07 ⟨HE w.params,#[],⟨0,0,0,0⟩,276,os⟩).map (fun s=>(s.heap,s.gens,s.drawn,s.toks)))=fun _=>some (H0 w.params,#[],⟨0,0,0,0⟩,276):=fun w=>by kernel_rfl
theorem popen:∀ w:World,(fencedOpening treeTable Challenge.pw_dm0167_07 w 40000).map (fun s=>(s.heap,s.gens,s.drawn,s.toks))=some (H0 w.params,#[],⟨0,0,0,0⟩,276) :=
 open_cut (M:=799) (He:=HE) (ge:=#[]) (de:=⟨0,0,0,0⟩) (ke:=276) (fun w=>by
  rw [Fast.te10274390034422433532,Fast.te1435165496053646825,Fast.te14364793385576792824]
  exact fopen w) rfl (fun w=>by
  rw [Fast.te14289696077712309145]
  exact ffence w)
theorem psize:∀ w:World,((H0 w.params).isNs mainGlobals && ((#[]:Array GenState)).size == 0,(H0 w.params).objs.size,(H0 w.params).nsMap mainGlobals "__annotations__")=(true,28,((some (.ref 6)):Option Value)):=fun w=>by
 rw [Fast.te8920871248978507458]
 kernel_rfl
noncomputable def Xt (s:Shared):Bool:=xlAt qv lv s && recOk (RowW.records (OpenRow.toRowW PySem.Challenge.rw_dm0167_07.row)) s
noncomputable def Yf (s:Shared):List (Option Obj):=kAs.map s.heap.get?
noncomputable def Ya (w:World):List (Option Obj):=(K w.params).map fun p=>some p.2
theorem zMa (w:World) (os:OsState):(staticsOk (importedModules Challenge.pw_dm0167_07.main.body) (H0 w.params) (H1 w.params) && namesBound Challenge.pw_dm0167_07 (H1 w.params) && gensDone ⟨H1 w.params,#[GenState.finished,GenState.finished,GenState.finished],⟨0,0,0,0⟩,1464,os⟩ && laidKept (H0 w.params) (H1 w.params))=true:=by
 rw [Fast.te5923862056798008813]
 kernel_rfl
theorem zLz (w:World) (os:OsState):openSeen qv loose (importedModules Challenge.pw_dm0167_07.main.body) Xt false ⟨H1 w.params,#[GenState.finished,GenState.finished,GenState.finished],⟨0,0,0,0⟩,1464,os⟩=openGood qv loose:=by
 rw [Fast.te4187177175401517315,Fast.te5923862056798008813]
 kernel_rfl
theorem zLy (w:World) (os:OsState):Yf ⟨H1 w.params,#[GenState.finished,GenState.finished,GenState.finished],⟨0,0,0,0⟩,1464,os⟩=Ya w:=by kernel_rfl
theorem left:LeftO Challenge.pw_dm0167_07 qv loose Xt Yf Ya 40000 false:=LeftO.of_pieces (H₀:=H0) (H₁:=H1) (m₀:=28) (ann:=(some (.ref 6))) popen psize run (by decide) (fun w=>funext fun os=>looks_pair (zMa w os) (looks_pair (zLz w os) (zLy w os)))
end MineTop
end
noncomputable section
namespace MineTop
open PySem PySem.W PyProof.Rows PySem.Calls
noncomputable def qMb (c:ClaimW) (cl:Str→Option Addr) (mean:ExcName→Option Value) (args:List WData) (s₁:Shared) (r:Result) (s':Shared):Prop:=GoodWG c cl mean args s₁ r s'∧s'.gens = #[]
theorem qEd {c:ClaimW} {s₀ s₁ s':Shared} {args:List WData} {vs:List Value} {as:List Addr} {r:Result} (hs:c.same=none) (hw:c.within=[]) (hi:∀ a b,c.ident a b=true)
  (hrd:ReadsAllW c.records (classAt s₀.heap) s₁.heap vs args as) (hold:∀ a∈as,∃ o,s₁.heap.get? a=some o) (ho:s₁.os=s₀.os)
  (g:qMb c (classAt s₀.heap) (ExcName.means s₀.heap) args { s₁ with gens:=#[] } r s'):c.Ends s₀ args vs s₁ r s'∧s'.os=s₀.os∧s'.gens = #[]:=by
 obtain ⟨⟨h1,K,h2,_⟩,h3⟩:=g
 refine ⟨?_,h2.trans ho,h3⟩
 rcases h1 with ⟨v,d,bs,rfl,n,rd,p,un⟩ | ⟨e,ob,cls,rfl,e1,e2,e3,e4⟩
 ·refine .inl ⟨v,rfl,n,⟨d,args,bs,as,rd,hrd.keepsK fun b o q z=>K.get_of_cls q z,p,fun q=>⟨(un q).1,(un q).2,fun a ha hb=>?_⟩,fun _ _=>hi _ _⟩,fun i q=>(by rw [hs] at q; cases q),fun b o q _ _=>K.old b o q,fun i q=>(by rw [hw] at q; cases q)⟩
  obtain ⟨o,z⟩:=hold a hb
  have z':s₁.heap.get? a=none:=(un q).2 a ha
  rw [z] at z'; cases z'
 ·exact .inr ⟨e,ob,cls,rfl,e1,e2,e3,e4,fun b o q=>K.old b o q⟩
noncomputable abbrev zMn (q:Program) (loose:List Str) (XP:(Str→Option Value)→Heap→Prop) (YP:World→Heap→Prop) (r:RowW) (d:DefRec) (kwd:List (Str×Expr)):Prop :=
 ∀ (w:World) (s₀ s₁:Shared) (mg mb:Str→Option Value),Ground q loose r.records XP w s₀ mg mb s₁.heap→YP w s₁.heap→∀ (a:Addr) (o:Obj) (pm cd doc dV kV:Value),s₁.heap.get? a=some o →
  o.data=.func { docDef d.name d.params d.body d.scope pm cd doc with defaults:=dV,kwdefaults:=kV }→s₁.heap.CodeRec cd d.name→Dflts mg s₁.heap d.params kwd dV kV→mg d.name=some (.ref a)→s₁.gens = #[] →
  ∀ (args:List WData) (vals:List Value) (as:List Addr),r.claim.pre args=true→WData.layableAll args=true→ReadsAllW r.records (classAt s₀.heap) s₁.heap vals args as→WellAll w.params s₁.heap vals args→(∀ a∈as,(a == sysModules)=false) →
   wpAny (model r.prog w) callerA (PySem.call (.ref a) vals) (fun v s'=>qMb r.claim (classAt s₀.heap) (ExcName.means s₀.heap) args s₁ (.ok (.ret v)) s')
    (fun e s'=>qMb r.claim (classAt s₀.heap) (ExcName.means s₀.heap) args s₁ (.error e) s') s₁
theorem zEq {r:OpenRow} {q:Program} {loose:List Str} {Xt:Shared→Bool} {XP:(Str→Option Value)→Heap→Prop} {α:Type} {Yf:Shared→α} {Ya:World→α} {YP:World→Heap→Prop} {d:DefRec} {kwd:List (Str×Expr)} {N:Nat}
  (left:LeftO r.prog q loose Xt Yf Ya N false) (hY:∀ w s,Yf s=Ya w→YP w s.heap) (hYk:∀ w h h',YP w h→(∀ b o,h.get? b=some o→h'.get? b=some o)→YP w h')
  (hX:∀ s,Xt s=true→XP (s.heap.nsMap mainGlobals) s.heap) (hXk:∀ mg h h',XP mg h→(∀ b o,h.get? b=some o→h'.get? b=some o)→XP mg h')
  (hdef:defOf q r.name=some (d,kwd)) (hp:r.prog.theDef r.name=some (d.params,d.body,d.scope)) (hk:kwWritten? d.params.kwonlyargs d.params.kw_defaults=some kwd) (hRf:∀ s,Xt s=true→RecFacts r.records s.heap) (hwr:(!r.writes || r.records.isEmpty)=true)
  (k1:r.wellSaid=true) (ok:(chainsOk q && opensWell r.prog && (frees r.toRowW && r.within.isEmpty))=true) (hb:r.prog.bare) (hw:r.toRowW.promised)
  (walk:zMn q loose XP YP r.toRowW d kwd):r.Holds:=by
 obtain ⟨ok1,ok2⟩:=Bool.and_eq_true_iff.mp ok
 obtain ⟨ok3,ok4⟩:=Bool.and_eq_true_iff.mp ok1
 obtain ⟨ok5,ok6⟩:=Bool.and_eq_true_iff.mp ok2
 obtain ⟨f1,f2,f3,f4,f5⟩:=frees_parts ok5
 refine ⟨k1,hw,⟨hb,ok4,by show r.toRowW.makers.map _=[]; rw [f5]; rfl⟩,hw.witness,fun w=>⟨(left.behind hX ok3 w).1,fun s' hs'=>?_⟩⟩
 obtain ⟨s₀,g1,g2,s,g3,g4,g5,g6,G0,y⟩:=(left.behind (XP:=fun mg h=>XP mg h∧RecFacts r.records h) (fun s hs=>⟨hX s hs,hRf s hs⟩) ok3 w).2 s' hs'
 have G:Ground q loose [] XP w s (s.heap.nsMap mainGlobals) (s.heap.nsMap builtinsNs) s.heap:=⟨G0.T,G0.B,G0.D,G0.TE,G0.TD,G0.W,G0.X.1,G0.cls,G0.has,G0.apart,G0.once,G0.K⟩
 have RF:=G0.X.2
 have GR:Ground q loose r.toRowW.records XP w s _ _ s.heap:=RF.ground G
 have hg:leftWithCleanup s.gens=false:=by simpa using g5
 refine ⟨s₀,g1,g2,s,g3,fun n hn=>?_,RF.1,RF.2.1,?_⟩
 ·obtain rfl:n=r.name:=by split at hn <;> simp_all
  exact pinned_of_view g6 G hdef hp hk
 refine ClaimW.callFrom_of_specN (c:=r.toRowW.claim) g4 hg fun args hpre hlay ord hord=>?_
 obtain ⟨⟨vs,s₁⟩,laid⟩:=Option.isSome_iff_exists.mp (layAllW_isSome (P:=w.params) (ord:=ord) GR.has args r.toRowW.args s (pre_splitW hpre).1)
 have kp:=layAllW_keeps _ _ _ laid
 have al:=layAllW_rest _ _ _ laid
 obtain ⟨as,hrd,hin,hold⟩:=reads_layAllW hord _ _ _ laid hlay s₁.heap (fun _ _ e=>e)
 have G1:=GR.keeps hXk kp
 obtain ⟨a,o,pm,cd,doc,dV,kV,h1,h2,h3,h4,h5⟩:=G1.fn hdef
 have run:=walk w s { s₁ with gens:=#[] } _ _ G1 (hYk _ _ _ (hY w s y) kp) a o pm cd doc dV kV h2 h3 h4 h5 (defOf_name hdef ▸ h1) rfl args vs as hpre hlay hrd (well_layAllW hord args s _ laid _ fun _ _ e=>e)
  (fun a ha=>beq_eq_false_iff_ne.mpr fun e=>by have:=(hin.2.2 a ha).1; subst e; exact absurd GR.low (Nat.not_lt.mpr this))
 have hi:=ident_freeW f2 f3 f4
 have hwi:r.toRowW.claim.within=[]:=List.isEmpty_iff.mp ok6
 exact ⟨vs,s₁,laid,wpAny_bind (wpAny_nsGet G1.T.g (by rw [h1]; exact wpAny_bind (wpAny_mono run (fun v s' g=>wpAny_pure ⟨_,rfl,have z:=qEd (c:=r.toRowW.claim) f1 hwi hi hrd hold al.2.2.1 g; ⟨z.1,z.2.1,z.2.2,fun q=>⟨namesKept_of g3 g6 _ kp g.1.2.1.old,noTable hwr q⟩⟩⟩) fun e s' g=>have z:=qEd (c:=r.toRowW.claim) f1 hwi hi hrd hold al.2.2.1 g; ⟨z.1,z.2.1,z.2.2,fun q=>⟨namesKept_of g3 g6 _ kp g.1.2.1.old,noTable hwr q⟩⟩)))⟩
section
variable {M:Model} {A:Around} {s s₁:Shared} {c:ClaimW} {cl:Str→Option Addr} {mean:ExcName→Option Value} {args:List WData}
theorem zKn {f:Value} {pos:List Value} (h:codeAny M A (.call f ⟨pos,[]⟩) (qMb c cl mean args s₁) s) :
  wpAny M A (PySem.call f pos []) (fun v s'=>qMb c cl mean args s₁ (.ok (.ret v)) s') (fun e s'=>qMb c cl mean args s₁ (.error e) s') s :=
 wpAny_call (codeAny_mono h fun res s' g=>by rcases g.1.1 with ⟨v,_,_,rfl,_⟩ | ⟨e,_,_,rfl,_⟩ <;> exact g)
theorem zLu {cd:Code} {k P:Addr} (hT:TabsAt [(k,P)] s₁.heap) (hr:∀ a x,c.raises a x=false)
  (h:codeAny M A cd (fun r s'=>GoodW c cl mean args { s₁ with heap:=ghostOf s₁.heap [(k,P)] } r s'∧GrownAll [(k,P)] s'.heap) s):codeAny M A cd (qMb c cl mean args s₁) s:=by
 refine codeAny_mono h fun r s' ⟨⟨h1,h2,h3,h4⟩,h5,_⟩=>⟨⟨?_,⟨fun b o e=>?_,fun b o e=>?_⟩,h3,.of_eq h4⟩,h4⟩
 ·obtain ⟨ps,hP⟩:=h5
  rcases h1 with ⟨v,d,as,r1,r2,r3,r4,r5⟩ | ⟨e,ob,x,_,_,_,r4,_⟩
  ·refine .inl ⟨v,d,as,r1,r2,r3,r4,fun q=>⟨(r5 q).1,fun a ha=>?_⟩⟩
   cases q1:s₁.heap.get? a with
   | none=>rfl
   | some o =>
    by_cases hb:a=P
    ·subst hb; exact absurd ha (readsW_apart hP rfl r3)
    ·have e3:(ghostOf s₁.heap [(k,P)]).get? a=none:=(r5 q).2 a ha
     rw [ghost_ne (tabs:=[(k,P)]) q1 (fun z=>hb (List.mem_singleton.mp z))] at e3; cases e3
  ·rw [hr] at r4; cases r4
 ·by_cases hb:b=P
  ·subst hb
   obtain ⟨ps,hP⟩:=h5
   have e2:=(hT _ (.head _)).2
   rw [e] at e2
   cases e2
   exact .inr (.inl ⟨((hT _ (.head _)).1.tab (hT _ (.head _)).2).isCodeTable,rfl,#[],ps,rfl,by rw [Array.empty_append]; exact hP⟩)
  ·exact .inl (h2 b o (ghost_ne (tabs:=[(k,P)]) e fun z=>hb (List.mem_singleton.mp z)))
 ·by_cases hb:b=P
  ·subst hb; obtain ⟨ps,hP⟩:=h5; exact ⟨_,hP⟩
  ·exact ⟨o,h2 b o (ghost_ne (tabs:=[(k,P)]) e fun z=>hb (List.mem_singleton.mp z))⟩
end
end MineTop
end
noncomputable section
namespace MineTop
open PySem PySem.W PyProof.Rows
theorem kE:∀ P:Params,kAs=(K P).map (·.1):=fun _=>by kernel_rfl
theorem hwit:(OpenRow.toRowW PySem.Challenge.rw_dm0167_07.row).promised:=by w_witness2
noncomputable def hd:=fun walk=>zMb (zEq (r:=PySem.Challenge.rw_dm0167_07.row) (q:=qv) (loose:=loose) (Xt:=Xt) (XP:=XL qv lv) (Yf:=Hook.obs (kHook K kAs kE)) (Ya:=Hook.val (kHook K kAs kE)) (YP:=Hook.says (kHook K kAs kE)) (N:=40000) left (Hook.of (kHook K kAs kE)) (Hook.keeps (kHook K kAs kE)) (fun s e=>xl_of s (Bool.and_eq_true_iff.mp e).1) XL.keeps (by rfl) (by rfl) (by rfl) (fun s e=>recFacts_of (Bool.and_eq_true_iff.mp e).2) (by rfl) (by decide +kernel) (by decide +kernel) ⟨rfl,rfl,rfl,rfl,rfl,by decide +kernel⟩ hwit walk)
end MineTop
end
noncomputable section
namespace Mine.Lake.Re
open PySem PySem.Sre PySem.Builtin.Re PyProof.Rows
theorem xP {m:M} (h:m.outcome.isSome=true):∀ n,M.runFor n m=m
 | 0=>rfl
 | n+1=>by unfold M.runFor; rw [if_pos h]
theorem kU:∀ (a b:Nat) (m:M),M.runFor (a+b) m=M.runFor b (M.runFor a m)
 | 0,b,m=>by rw [Nat.zero_add]; rfl
 | a+1,b,m=>by
  rw [show a+1+b=(a+b)+1 by lia]
  by_cases h:m.outcome.isSome=true
  ·rw [xP h,xP h,xP h]
  ·show (if m.outcome.isSome=true then m else M.runFor (a+b) m.step)=M.runFor b (if m.outcome.isSome=true then m else M.runFor a m.step)
   rw [if_neg h,if_neg h]
   exact kU a b m.step
section
variable {M':Model} {A:Around} {E:Value→Shared→Prop} {s:Shared}
theorem qIk:∀ (T:Nat) (m:M) (n:Nat) {Q:M→Shared→Prop},(M.runFor n m).outcome.isSome=true→n≤4 * T→1≤T→Q (M.runFor n m) s→wpAny M' A (reDrive T m) Q E s
 | 0,m,n,Q,h,hn,h1,hQ=>by lia
 | T+1,m,n,Q,h,hn,h1,hQ=>by
  unfold reDrive
  show wpAny M' A (if (M.runFor 4 m).outcome.isSome=true then pure (M.runFor 4 m) else do rule "sre.turn"; reDrive T (M.runFor 4 m)) Q E s
  by_cases h4:(M.runFor 4 m).outcome.isSome=true
  ·rw [if_pos h4]
   have e:M.runFor n m=M.runFor 4 m:=by
    by_cases hle:4≤n
    ·rw [show n=4+(n - 4) by lia,kU,xP h4]
    ·rw [show (4:Nat)=n+(4 - n) by lia,kU,xP h]
   rw [e] at hQ
   exact wpAny_pure hQ
  ·rw [if_neg h4]
   have hlt:4 < n:=by
    refine Nat.not_le.mp fun hle=>h4 ?_
    rw [show (4:Nat)=n+(4 - n) by lia,kU,xP h]; exact h
   have e:M.runFor n m=M.runFor (n - 4) (M.runFor 4 m):=by
    conv=>lhs; rw [show n=4+(n - 4) by lia]
    rw [kU]
   rw [e] at h hQ
   exact wpAny_bind (wpAny_rule (qIk T _ (n - 4) h (by lia) (by lia) hQ))
theorem qBn {c:Nat→Bool} {nm:Nat→String}:∀ (l:List Nat) {Q:PUnit→Shared→Prop},Q ⟨⟩ s→wpAny M' A (forIn l PUnit.unit fun i r=>if c i=true then do rule (nm i); pure (ForInStep.yield PUnit.unit) else pure (ForInStep.yield PUnit.unit)) Q E s
 | [],Q,h=>by rw [List.forIn_nil]; exact wpAny_pure h
 | i::l,Q,h=>by
  rw [List.forIn_cons]
  refine wpAny_bind ?_
  by_cases hc:c i=true
  ·rw [if_pos hc]; exact wpAny_bind (wpAny_rule (wpAny_pure (qBn l h)))
  ·rw [if_neg hc]; exact wpAny_pure (qBn l h)
theorem qNs {m:M} {n:Nat} (ho:(M.runFor n m).outcome=some .matched∨(M.runFor n m).outcome=some .failed) (hn:n≤4 * 2 ^ 64) {Q:Option M→Shared→Prop}
  (hs:(M.runFor n m).outcome=some .matched→Q (some (M.runFor n m)) s) (hf:(M.runFor n m).outcome=some .failed→Q none s):wpAny M' A (reRunToEnd m) Q E s:=by
 unfold reRunToEnd
 refine wpAny_bind (qIk (2 ^ 64) m n (by rcases ho with h | h <;> rw [h] <;> rfl) hn (by decide) ?_)
 refine wpAny_bind (qBn _ ?_)
 rcases ho with h | h
 ·rw [h]; exact wpAny_pure (hs h)
 ·rw [h]; exact wpAny_pure (hf h)
end
noncomputable def zLx (code text:Array Nat) (pos lim:Nat):M:=M.runFor 20000 (forMatch code text 0 pos lim false false)
noncomputable def qOc (m:M):Option (Option (Nat×Nat)):=match m.outcome with
 | some .matched=>if m.lastindex = -1 then some (some (m.start,m.handed)) else none
 | some .failed=>some none
 | _=>none
noncomputable def jG (code text:Array Nat) (pos lim:Nat):Option (Option (Nat×Nat)):=qOc (zLx code text pos lim)
noncomputable def boundObj (id:String) (a:Addr):Obj:={ cls:=.type "builtin_function_or_method", data:=.fields #[.builtin id,.ref a] }
structure PatAt (h:Heap) (pt:Addr) (code:Array Nat):Prop where
 at_:∃ op fs ct,h.get? pt=some op∧op.cls=.type "re.Pattern" ∧ op.data=.fields fs∧reRawNat (fs.getD 6 .none)=0∧reRawNat (fs.getD 2 .none)=0∧fs.getD 5 .none=.ref ct ∧
  ∃ oc items e,h.get? ct=some oc∧oc.data=.seq items e∧(items.map reRawOf).map (·.toNat)=code
theorem qIg:entryFor table "re.Pattern.match" = some Builtin.«re.Pattern.match»:=entryFor_of_tree (by kernel_rfl)
theorem qHh {as:Args}:(Code.builtin "re.Pattern.match" as).quiet=true:=Code.quiet_builtin _ (by decide +kernel)
theorem qPp:Manifest.signature? "re.Pattern.match" = some ⟨.keywords,"Pattern.match", "match", .self,[⟨"string", .posOrKw,true⟩,⟨"pos", .posOrKw,false⟩,⟨"endpos", .posOrKw,false⟩]⟩:=by kernel_rfl
theorem qKx:builtinKind "re.Pattern.match" = some .method:=by kernel_rfl
noncomputable def qZ:List Int→Int
 | i::_=>i
 | []=>0
noncomputable def zC:List Int→Int
 | _::l::_=>l
 | _=>2 ^ 63 - 1
inductive IntArgs:List Int→List Value→Prop
 | nil:IntArgs [] []
 | one (i:Int) (t:Tok):IntArgs [i] [.int i t]
 | two (i l:Int) (t u:Tok):IntArgs [i,l] [.int i t,.int l u]
theorem qIn {self:Value} {x:PySem.Str} {t:Tok} {is:List Int} {rest:List Value} (h:IntArgs is rest) :
  Bind.checkArgs "re.Pattern.match" ⟨.keywords,s!"{Bind.lastOf "re.Pattern"}.{Bind.lastOf "re.Pattern.match"}", "match", .self,[⟨"string", .posOrKw,true⟩,⟨"pos", .posOrKw,false⟩,⟨"endpos", .posOrKw,false⟩]⟩ ⟨self::.str x t::rest,[]⟩=pure ():=by
 cases h <;> first | rfl | kernel_rfl
section
variable {prog:Program} {w:World} {A:Around} {E:Value→Shared→Prop} {s:Shared}
theorem qIq {pt:Addr} {x:PySem.Str} {t:Tok} {is:List Int} {rest:List Value} {code:Array Nat} {M:Model} (P:PatAt s.heap pt code) (h:IntArgs is rest) {Q:Unit→Shared→Prop} (hQ:Q () s) :
  wpAny M A (checkBoundCall "re.Pattern.match" ⟨.ref pt::.str x t::rest,[]⟩) Q E s:=by
 obtain ⟨op,fs,ct,h1,h2,h3,_⟩:=P.at_
 have hT:s.TypeIs (.ref pt) "re.Pattern" := ⟨op,h1,h2⟩
 unfold checkBoundCall
 rw [qPp,qKx]
 dsimp only
 rw [if_neg (by decide)]
 refine wpAny_bind (wpAny_isInstance (b:=false) hT (by rw [isSubtype_type]; kernel_rfl) ?_)
 rw [if_neg (by decide +kernel)]
 refine wpAny_bind (wpAny_bind ?_)
 unfold loadHead
 refine wpAny_load h1 (wpAny_pure ?_)
 rw [h3]
 rw [if_neg (fun q=>by cases q)]
 refine wpAny_bind (wpAny_typeOf hT ?_)
 exact wpAny_of_eq (qIn h) hQ
theorem qKp {id f:String} {x:PySem.Str} {t:Tok} {is:List Int} {rest:List Value} (h:IntArgs is rest):reNamed id f ["string", "pos", "endpos"] 1 (.str x t::rest) []=pure [some (.str x t),rest[0]?,rest[1]?]:=by
 cases h <;> rfl
theorem qBe {M:Model} {i:Int} {t:Tok} {Q:Int→Shared→Prop} (h1 : -(2 ^ 63)≤i) (h2:i < 2 ^ 63) (hQ:Q i s):wpAny M A (reSsize (.int i t)) Q E s:=by
 unfold reSsize
 refine wpAny_bind (wpAny_of_eq (a:=i) rfl ?_)
 rw [if_neg (by simp; lia)]
 exact wpAny_pure hQ
theorem qEr {M:Model} {pt:Addr} {x:PySem.Str} {t:Tok} {code:Array Nat} {pos lim:Int} (P:PatAt s.heap pt code) {Q:ReTarget→Shared→Prop}
  (hQ:Q { pattern:=.ref pt,string:=.str x t,code:=code,text:=x.cps,kind:=0,groups:=0,pos:=min pos.toNat x.cps.size,lim:=min lim.toNat x.cps.size } s) :
  wpAny M A (do
   let fs ← fieldsOf (.ref pt)
   let (text,kind) ← reTextOf (.str x t)
   let want:=reRawNat (fs.getD 6 .none)
   if want == 0 && kind == 1 then raiseError "TypeError" "cannot use a string pattern on a bytes-like object"
   if want == 1 && kind == 0 then raiseError "TypeError" "cannot use a bytes pattern on a string-like object"
   reNoCollectionInside (.str x t) kind
   let clip (i:Int):Nat:=min i.toNat text.size
   pure { pattern:=.ref pt,string:=.str x t,code:=(← reRawItems (fs.getD 5 .none)).map (·.toNat),text,kind,groups:=reRawNat (fs.getD 2 .none),pos:=clip pos,lim:=clip lim }) Q E s:=by
 obtain ⟨op,fs,ct,h1,h2,h3,h4,h5,h6,oc,items,e,h7,h8,h9⟩:=P.at_
 refine wpAny_bind (wpAny_fieldsOf h1 h3 ?_)
 refine wpAny_bind (wpAny_of_eq (a:=(x.cps,0)) rfl ?_)
 dsimp only
 rw [h4]
 rw [if_neg (by decide),if_neg (by decide)]
 refine wpAny_bind (wpAny_of_eq (a:=()) rfl ?_)
 rw [h6]
 refine wpAny_bind ?_
 unfold reRawItems
 refine wpAny_bind (wpAny_seqItems h7 h8 (wpAny_pure ?_))
 refine wpAny_pure ?_
 dsimp only [Option.getD]
 rw [h9,h5]
 exact hQ
theorem qDh {M:Model} {pt:Addr} {x:PySem.Str} {t:Tok} {is:List Int} {rest:List Value} {code:Array Nat} {id f:String} (P:PatAt s.heap pt code) (h:IntArgs is rest) (hp1 : -(2 ^ 63)≤qZ is) (hp2:qZ is < 2 ^ 63) (hl1 : -(2 ^ 63)≤zC is) (hl2:zC is < 2 ^ 63) {Q:ReTarget→Shared→Prop}
  (hQ:Q { pattern:=.ref pt,string:=.str x t,code:=code,text:=x.cps,kind:=0,groups:=0,pos:=min (qZ is).toNat x.cps.size,lim:=min (zC is).toNat x.cps.size } s) :
  wpAny M A (reTarget id f ⟨.ref pt::.str x t::rest,[]⟩) Q E s:=by
 unfold reTarget
 dsimp only
 refine wpAny_bind (wpAny_of_eq (qKp h) ?_)
 dsimp only
 cases h with
 | nil=>refine wpAny_bind (wpAny_pure ?_); refine wpAny_bind (wpAny_pure ?_); exact qEr P hQ
 | one i u=>refine wpAny_bind (qBe hp1 hp2 ?_); refine wpAny_bind (wpAny_pure ?_); exact qEr P hQ
 | two i l u v=>refine wpAny_bind (qBe hp1 hp2 ?_); refine wpAny_bind (qBe hl1 hl2 ?_); exact qEr P hQ
end
noncomputable def kS (p e:Nat):Obj:={ cls:=.type "tuple", data:=.seq #[rawInt p,rawInt e] }
noncomputable def xV (x:PySem.Str) (t:Tok) (pt tp:Addr) (pos lim:Nat):Obj:={ cls:=.type "re.Match", data:=.fields #[.str x t,.ref pt,rawInt pos,rawInt lim,rawInt (-1),.ref tp] }
section
variable {prog:Program} {w:World} {A:Around} {E:Value→Shared→Prop} {s:Shared} {M:Model}
theorem uZ {pt:Addr} {x:PySem.Str} {t:Tok} {pos lim p e:Nat} {m:Sre.M} (h1:m.start=p) (h2:m.handed=e) (h3:m.lastindex = -1) {Q:Value→Shared→Prop}
  (hQ:Q (.ref (s.heap.objs.size+1)) { s with heap:=(s.heap.push (kS p e)).push (xV x t pt s.heap.objs.size pos lim) }):wpAny M A (reNewMatch (.ref pt) (.str x t) 0 pos lim m) Q E s:=by
 unfold reNewMatch
 rw [if_neg (by simp)]
 refine wpAny_bind (wpAny_newObj_type ?_ (by show (2:Nat)≤sizeLine; decide))
 unfold newFields
 refine wpAny_newObj_type ?_ (by show (6:Nat)≤sizeLine+2; decide)
 have hz:∀ o:Obj,(s.heap.push o).objs.size=s.heap.objs.size+1:=fun o=>Heap.size_push ..
 dsimp only
 rw [hz]
 rw [h1,h2,h3]
 exact hQ
theorem qJj {pt:Addr} {x:PySem.Str} {t:Tok} {is:List Int} {rest:List Value} {code:Array Nat} (P:PatAt s.heap pt code) (h:IntArgs is rest) (hp1 : -(2 ^ 63)≤qZ is) (hp2:qZ is < 2 ^ 63) (hl1 : -(2 ^ 63)≤zC is) (hl2:zC is < 2 ^ 63) {r:Option (Nat×Nat)}
  (hr:jG code x.cps (min (qZ is).toNat x.cps.size) (min (zC is).toNat x.cps.size)=some r) {Q:PySem.Fin→Shared→Prop}
  (hs:∀ p e,r=some (p,e)→Q (.done (.ret (.ref (s.heap.objs.size+1)))) { s with heap:=(s.heap.push (kS p e)).push (xV x t pt s.heap.objs.size (min (qZ is).toNat x.cps.size) (min (zC is).toNat x.cps.size)) })
  (hn:r=none→Q (.done (.ret .none)) s) :
  wpAny M A (Builtin.«re.Pattern.match» ⟨.ref pt::.str x t::rest,[]⟩) Q E s:=by
 unfold Builtin.«re.Pattern.match»
 refine wpAny_bind (qDh P h hp1 hp2 hl1 hl2 ?_)
 unfold reAnswer
 dsimp only
 unfold jG qOc zLx at hr
 refine wpAny_bind (qNs (n:=20000) ?_ (by decide) (fun ho=>?_) fun ho=>?_)
 ·split at hr
  ·exact .inl (by assumption)
  ·exact .inr (by assumption)
  ·cases hr
 ·rw [ho] at hr
  dsimp only at hr
  split at hr
  ·rename_i hi
   dsimp only
   exact wpAny_bind (uZ rfl rfl hi (wpAny_pure (hs _ _ (Option.some.inj hr).symm)))
  ·cases hr
 ·rw [ho] at hr
  exact wpAny_pure (hn (Option.some.inj hr).symm)
theorem qLq {b pt:Addr} {x:PySem.Str} {t:Tok} {is:List Int} {rest:List Value} {code:Array Nat} (hb:s.heap.get? b=some (boundObj "re.Pattern.match" pt)) (P:PatAt s.heap pt code) (h:IntArgs is rest) (hp1 : -(2 ^ 63)≤qZ is) (hp2:qZ is < 2 ^ 63) (hl1 : -(2 ^ 63)≤zC is) (hl2:zC is < 2 ^ 63) {r:Option (Nat×Nat)}
  (hr:jG code x.cps (min (qZ is).toNat x.cps.size) (min (zC is).toNat x.cps.size)=some r) {Q:Value→Shared→Prop}
  (hs:∀ p e,r=some (p,e)→Q (.ref (s.heap.objs.size+1)) { s with heap:=(s.heap.push (kS p e)).push (xV x t pt s.heap.objs.size (min (qZ is).toNat x.cps.size) (min (zC is).toNat x.cps.size)) })
  (hn:r=none→Q .none s) :
  wpAny (model prog w) A (call (.ref b) (.str x t::rest)) Q E s:=by
 refine wpAny_call (codeAny_of_tree ?_)
 show wpAny _ A.in1 (callAny (.ref b) ⟨.str x t::rest,[]⟩) _ _ s
 refine wpAny_bind (wpAny_load hb ?_)
 show wpAny _ _ (if (Value.type "builtin_function_or_method" == Value.type "method" || Value.type "builtin_function_or_method" == Value.type "builtin_function_or_method" || Value.type "builtin_function_or_method" == Value.type "method-wrapper")=true then _ else _) _ _ _
 rw [if_pos (by decide)]
 show wpAny _ _ (if (Value.type "builtin_function_or_method" != Value.type "method")=true then _ else _) _ _ _
 rw [if_pos (by decide)]
 refine wpAny_bind (qIq P h ?_)
 refine wpAny_bind (wpAny_pure (wpAny_pure ?_))
 refine ⟨qHh,codeAny_builtin qIg (qJj P h hp1 hp2 hl1 hl2 hr ?_ ?_)⟩
 ·intro p e hr'; exact hs p e hr'
 ·intro hr'; exact hn hr'
theorem yV {b pt:Addr} {id:String} (hb:s.heap.get? b=some (boundObj id pt)) {Q:Keeper→Shared→Prop} (hQ:∀ k,Q k s):wpAny M A (keeperOf (.ref b)) Q E s:=by
 unfold keeperOf
 refine wpAny_bind (wpAny_load hb ?_)
 exact wpAny_pure (hQ _)
end
theorem kC:PlainAttrs "re.Match" :=
 ⟨⟨"object.__getattribute__", by rw [typeLookup_type,builtinLookup_eq_fast]; kernel_rfl,by decide +kernel⟩,by rw [typeLookup_type,builtinLookup_eq_fast]; kernel_rfl⟩
theorem qHa:Slot "re.Match" "end" "re.Match.end" :=
 .of (owner:="re.Match") (n:="end") (by rw [typeLookup_type,builtinLookup_eq_fast]; kernel_rfl) (by decide +kernel) (by decide +kernel) (by decide +kernel)
  (by first | exact .inl (by decide +kernel) | exact .inr (by decide +kernel)) (by rw [isSubtype_type]; kernel_rfl)
theorem qSw:typeOf (.builtin "re.Match.end")=pure (.type "method_descriptor"):=by show builtinType _=_; rw [builtinType_eq_fast]; kernel_rfl
theorem qRg:entryFor table "re.Match.end" = some Builtin.«re.Match.end»:=entryFor_of_tree (by kernel_rfl)
theorem jW:Manifest.owners.lookup (String.ofList ['h','c','t','a','M','.','e','r'].reverse)=some Manifest.sig_re_Match:=by kernel_rfl
theorem qYs (a:Value):argsOk "re.Match.end" ⟨[a],[]⟩:=by
 unfold argsOk; rw [signature?_of (id:="re.Match.end") (n:=['d','n','e']) (o:=['h','c','t','a','M','.','e','r']) (by kernel_rfl) jW]; kernel_rfl
section
variable {M:Model} {A:Around} {E:Value→Shared→Prop} {s:Shared}
structure MatchAt (h:Heap) (a p e:Nat):Prop where
 there:∃ o ot vs items tp e₀ t u,h.get? a=some o∧o.cls=.type "re.Match" ∧ o.data=.fields vs∧vs.getD 5 .none=.ref tp∧h.get? tp=some ot∧ot.data=.seq items e₀∧items.toList=[.int p t,.int e u]
theorem found_ok {a p e:Nat} (X:MatchAt s.heap a p e) {Q:ReFound→Shared→Prop} (hQ:∀ x,x.spans = #[(p:Int),(e:Int)]→Q x s):wpAny M A (reFound (.ref a)) Q E s:=by
 obtain ⟨o,ot,vs,items,tp,e₀,t,u,h1,h2,h3,h4,h5,h6,h7⟩:=X.there
 unfold reFound
 refine wpAny_bind (wpAny_fieldsOf h1 h3 ?_)
 rw [h4]
 refine wpAny_bind ?_
 unfold reRawItems
 refine wpAny_bind (wpAny_seqItems h5 h6 (wpAny_pure ?_))
 refine wpAny_pure (hQ _ ?_)
 dsimp only [Option.getD]
 obtain ⟨l⟩:=items
 have h7':l=[.int p t,.int e u]:=h7
 subst h7'
 simp [reRawOf]
theorem qKu {a p e:Nat} {name short:String} (X:MatchAt s.heap a p e) {Q:ReFound×Nat→Shared→Prop} (hQ:∀ x,x.spans = #[(p:Int),(e:Int)]→Q (x,0) s):wpAny M A (reOneGroup name short ⟨[.ref a],[]⟩) Q E s:=by
 unfold reOneGroup
 refine wpAny_bind (wpAny_of_eq (a:=(.ref a,[])) rfl ?_)
 dsimp only
 exact wpAny_bind (found_ok X fun x hx=>wpAny_bind (wpAny_pure (wpAny_pure (hQ x hx))))
theorem qTc {a p e:Nat} (X:MatchAt s.heap a p e) {Q:PySem.Fin→Shared→Prop} (hQ:Q (.done (.ret (.int e s.toks))) { s with toks:=s.toks+1 }):wpAny M A (Builtin.«re.Match.end» ⟨[.ref a],[]⟩) Q E s:=by
 unfold Builtin.«re.Match.end»
 refine wpAny_bind (qKu X fun x hx=>?_)
 dsimp only
 rw [hx]
 unfold retInt
 exact wpAny_bind (wpAny_mkInt (wpAny_pure hQ))
end
section
variable {prog:Program} {w:World} {A:Around} {E:Value→Shared→Prop} {s:Shared}
theorem qYk {a p e:Nat} (X:MatchAt s.heap a p e) {Q:Value→Shared→Prop} (hQ:Q (.int e s.toks) { s with toks:=s.toks+1 }):wpAny (model prog w) A (call (.builtin "re.Match.end") [.ref a]) Q E s:=by
 obtain ⟨o,ot,vs,items,tp,e₀,t,u,h1,h2,_⟩:=X.there
 refine wpAny_call_entry qHa ⟨o,h1,h2⟩ qRg ?_ (qYs _)
 exact qTc X ⟨_,rfl,hQ⟩
noncomputable def xD (len:Nat) (i:Int):Nat:=(max 0 (if i < 0 then i+len else i)).toNat
noncomputable def jC (x y:PySem.Str) (lo hi:Nat):Int:=match Builtin.Str.lastOccurrence x y lo hi with
 | some i=>(i:Int)
 | none=>-1
theorem qJi {x y:PySem.Str} {t u v v':Tok} {i j:Int}:Gives (Builtin.«str.rfind» ⟨[.str x t,.str y u,.int i v,.int j v'],[]⟩) (.int (jC x y (xD x.length i) (min (xD x.length j) x.length))):=by
 show Gives (match Builtin.Str.lastOccurrence x y (xD x.length i) (min (xD x.length j) x.length) with | some i=>retInt i | none=>(do rule "str.rfind.not-found"; retInt (-1))) _
 unfold jC
 cases Builtin.Str.lastOccurrence x y (xD x.length i) (min (xD x.length j) x.length) with
 | none=>exact .rule (.of_eq rfl)
 | some i=>exact .of_eq rfl
theorem qLp {x y:PySem.Str} {t u v v':Tok} {i j:Int} {Q:Value→Shared→Prop} (hQ:Q (.int (jC x y (xD x.length i) (min (xD x.length j) x.length)) s.toks) { s with toks:=s.toks+1 }) :
  wpAny (model prog w) A (call (.builtin "str.rfind") [.str x t,.str y u,.int i v,.int j v']) Q E s :=
 call_gives PySem.F.slot_str_rfind (typeIs_str s x t) PySem.F.entry_str_rfind (PySem.F.args_str_rfind_4 _ _ _ _) qJi hQ
end
end Mine.Lake.Re
end
noncomputable section
namespace Mine.Lake.Re
open PySem PySem.Sre PySem.Builtin.Re
noncomputable def code1:Array Nat:=#[14,4,0,3,4294967295,6,1,24,11,0,4294967295,13,6,16,32,16,9,0,1,7,13,16,119,16,104,16,105,16,108,16,101,15,173,11,16,101,16,108,16,115,16,101,15,162,9,16,100,16,101,16,102,15,153,15,16,114,16,101,16,116,16,117,16,114,16,110,15,138,15,16,97,16,115,16,115,16,101,16,114,16,116,15,123,13,16,98,16,114,16,101,16,97,16,107,15,110,13,16,99,16,108,16,97,16,115,16,115,15,97,19,16,99,16,111,16,110,16,116,16,105,16,110,16,117,16,101,15,78,11,16,101,16,108,16,105,16,102,15,67,9,16,116,16,114,16,121,15,58,15,16,101,16,120,16,99,16,101,16,112,16,116,15,43,13,16,114,16,97,16,105,16,115,16,101,15,30,15,16,105,16,109,16,112,16,111,16,114,16,116,15,15,13,16,121,16,105,16,101,16,108,16,100,15,2,0,6,10,1]
noncomputable def qBh (code text:Array Nat) (pos lim:Nat):Option (Option (Nat×Nat)):=qOc (M.runFor 20000 (forSearch code text 0 pos lim false))
end Mine.Lake.Re
end
noncomputable section
namespace Mine.Lake.Re
open PySem PySem.Sre PySem.Builtin.Re PyProof.Rows
theorem qFs:entryFor table "re.Pattern.search" = some Builtin.«re.Pattern.search»:=entryFor_of_tree (by kernel_rfl)
theorem qEw {as:Args}:(Code.builtin "re.Pattern.search" as).quiet=true:=Code.quiet_builtin _ (by decide +kernel)
theorem qJu:Manifest.signature? "re.Pattern.search" = some ⟨.keywords,"Pattern.search", "search", .self,[⟨"string", .posOrKw,true⟩,⟨"pos", .posOrKw,false⟩,⟨"endpos", .posOrKw,false⟩]⟩:=by kernel_rfl
theorem qHq:builtinKind "re.Pattern.search" = some .method:=by kernel_rfl
theorem qFv {self:Value} {x:PySem.Str} {t:Tok} {is:List Int} {rest:List Value} (h:IntArgs is rest) :
  Bind.checkArgs "re.Pattern.search" ⟨.keywords,s!"{Bind.lastOf "re.Pattern"}.{Bind.lastOf "re.Pattern.search"}", "search", .self,[⟨"string", .posOrKw,true⟩,⟨"pos", .posOrKw,false⟩,⟨"endpos", .posOrKw,false⟩]⟩ ⟨self::.str x t::rest,[]⟩=pure ():=by
 cases h <;> first | rfl | kernel_rfl
section
variable {prog:Program} {w:World} {A:Around} {E:Value→Shared→Prop} {s:Shared}
theorem qFy {pt:Addr} {x:PySem.Str} {t:Tok} {is:List Int} {rest:List Value} {code:Array Nat} {M:Model} (P:PatAt s.heap pt code) (h:IntArgs is rest) {Q:Unit→Shared→Prop} (hQ:Q () s) :
  wpAny M A (checkBoundCall "re.Pattern.search" ⟨.ref pt::.str x t::rest,[]⟩) Q E s:=by
 obtain ⟨op,fs,ct,h1,h2,h3,_⟩:=P.at_
 have hT:s.TypeIs (.ref pt) "re.Pattern" := ⟨op,h1,h2⟩
 unfold checkBoundCall
 rw [qJu,qHq]
 dsimp only
 rw [if_neg (by decide)]
 refine wpAny_bind (wpAny_isInstance (b:=false) hT (by rw [isSubtype_type]; kernel_rfl) ?_)
 rw [if_neg (by decide +kernel)]
 refine wpAny_bind (wpAny_bind ?_)
 unfold loadHead
 refine wpAny_load h1 (wpAny_pure ?_)
 rw [h3]
 rw [if_neg (fun q=>by cases q)]
 refine wpAny_bind (wpAny_typeOf hT ?_)
 exact wpAny_of_eq (qFv h) hQ
end
section
variable {prog:Program} {w:World} {A:Around} {E:Value→Shared→Prop} {s:Shared} {M:Model}
theorem qGm {pt:Addr} {x:PySem.Str} {t:Tok} {is:List Int} {rest:List Value} {code:Array Nat} (P:PatAt s.heap pt code) (h:IntArgs is rest) (hp1 : -(2 ^ 63)≤qZ is) (hp2:qZ is < 2 ^ 63) (hl1 : -(2 ^ 63)≤zC is) (hl2:zC is < 2 ^ 63) {r:Option (Nat×Nat)}
  (hr:qBh code x.cps (min (qZ is).toNat x.cps.size) (min (zC is).toNat x.cps.size)=some r) {Q:PySem.Fin→Shared→Prop}
  (hs:∀ p e,r=some (p,e)→Q (.done (.ret (.ref (s.heap.objs.size+1)))) { s with heap:=(s.heap.push (kS p e)).push (xV x t pt s.heap.objs.size (min (qZ is).toNat x.cps.size) (min (zC is).toNat x.cps.size)) })
  (hn:r=none→Q (.done (.ret .none)) s) :
  wpAny M A (Builtin.«re.Pattern.search» ⟨.ref pt::.str x t::rest,[]⟩) Q E s:=by
 unfold Builtin.«re.Pattern.search»
 refine wpAny_bind (qDh P h hp1 hp2 hl1 hl2 ?_)
 unfold reAnswer
 dsimp only
 unfold qBh qOc at hr
 refine wpAny_bind (qNs (n:=20000) ?_ (by decide) (fun ho=>?_) fun ho=>?_)
 ·split at hr
  ·exact .inl (by assumption)
  ·exact .inr (by assumption)
  ·cases hr
 ·rw [ho] at hr
  dsimp only at hr
  split at hr
  ·rename_i hi
   dsimp only
   exact wpAny_bind (uZ rfl rfl hi (wpAny_pure (hs _ _ (Option.some.inj hr).symm)))
  ·cases hr
 ·rw [ho] at hr
  exact wpAny_pure (hn (Option.some.inj hr).symm)
theorem qIo {b pt:Addr} {x:PySem.Str} {t:Tok} {is:List Int} {rest:List Value} {code:Array Nat} (hb:s.heap.get? b=some (boundObj "re.Pattern.search" pt)) (P:PatAt s.heap pt code) (h:IntArgs is rest) (hp1 : -(2 ^ 63)≤qZ is) (hp2:qZ is < 2 ^ 63) (hl1 : -(2 ^ 63)≤zC is) (hl2:zC is < 2 ^ 63) {r:Option (Nat×Nat)}
  (hr:qBh code x.cps (min (qZ is).toNat x.cps.size) (min (zC is).toNat x.cps.size)=some r) {Q:Value→Shared→Prop}
  (hs:∀ p e,r=some (p,e)→Q (.ref (s.heap.objs.size+1)) { s with heap:=(s.heap.push (kS p e)).push (xV x t pt s.heap.objs.size (min (qZ is).toNat x.cps.size) (min (zC is).toNat x.cps.size)) })
  (hn:r=none→Q .none s) :
  wpAny (model prog w) A (call (.ref b) (.str x t::rest)) Q E s:=by
 refine wpAny_call (codeAny_of_tree ?_)
 show wpAny _ A.in1 (callAny (.ref b) ⟨.str x t::rest,[]⟩) _ _ s
 refine wpAny_bind (wpAny_load hb ?_)
 show wpAny _ _ (if (Value.type "builtin_function_or_method" == Value.type "method" || Value.type "builtin_function_or_method" == Value.type "builtin_function_or_method" || Value.type "builtin_function_or_method" == Value.type "method-wrapper")=true then _ else _) _ _ _
 rw [if_pos (by decide)]
 show wpAny _ _ (if (Value.type "builtin_function_or_method" != Value.type "method")=true then _ else _) _ _ _
 rw [if_pos (by decide)]
 refine wpAny_bind (qFy P h ?_)
 refine wpAny_bind (wpAny_pure (wpAny_pure ?_))
 refine ⟨qEw,codeAny_builtin qFs (qGm P h hp1 hp2 hl1 hl2 hr ?_ ?_)⟩
 ·intro p e hr; exact hs p e hr
 ·intro hr; exact hn hr
end
theorem qBg:Slot "re.Match" "start" "re.Match.start" :=
 .of (owner:="re.Match") (n:="start") (by rw [typeLookup_type,builtinLookup_eq_fast]; kernel_rfl) (by decide +kernel) (by decide +kernel) (by decide +kernel)
  (by first | exact .inl (by decide +kernel) | exact .inr (by decide +kernel)) (by rw [isSubtype_type]; kernel_rfl)
theorem qJc:typeOf (.builtin "re.Match.start")=pure (.type "method_descriptor"):=by show builtinType _=_; rw [builtinType_eq_fast]; kernel_rfl
theorem qIf:entryFor table "re.Match.start" = some Builtin.«re.Match.start»:=entryFor_of_tree (by kernel_rfl)
theorem qLw (a:Value):argsOk "re.Match.start" ⟨[a],[]⟩:=by
 unfold argsOk; rw [signature?_of (id:="re.Match.start") (n:=['t','r','a','t','s']) (o:=['h','c','t','a','M','.','e','r']) (by kernel_rfl) jW]; kernel_rfl
theorem qDo:Slot "re.Match" "span" "re.Match.span" :=
 .of (owner:="re.Match") (n:="span") (by rw [typeLookup_type,builtinLookup_eq_fast]; kernel_rfl) (by decide +kernel) (by decide +kernel) (by decide +kernel)
  (by first | exact .inl (by decide +kernel) | exact .inr (by decide +kernel)) (by rw [isSubtype_type]; kernel_rfl)
theorem qOg:typeOf (.builtin "re.Match.span")=pure (.type "method_descriptor"):=by show builtinType _=_; rw [builtinType_eq_fast]; kernel_rfl
theorem qLg:entryFor table "re.Match.span" = some Builtin.«re.Match.span»:=entryFor_of_tree (by kernel_rfl)
theorem qSj (a:Value):argsOk "re.Match.span" ⟨[a],[]⟩:=by
 unfold argsOk; rw [signature?_of (id:="re.Match.span") (n:=['n','a','p','s']) (o:=['h','c','t','a','M','.','e','r']) (by kernel_rfl) jW]; kernel_rfl
section
variable {M:Model} {A:Around} {E:Value→Shared→Prop} {s:Shared}
theorem qJh {a p e:Nat} (X:MatchAt s.heap a p e) {Q:PySem.Fin→Shared→Prop} (hQ:Q (.done (.ret (.int p s.toks))) { s with toks:=s.toks+1 }):wpAny M A (Builtin.«re.Match.start» ⟨[.ref a],[]⟩) Q E s:=by
 unfold Builtin.«re.Match.start»
 refine wpAny_bind (qKu X fun x hx=>?_)
 dsimp only
 rw [hx]
 unfold retInt
 exact wpAny_bind (wpAny_mkInt (wpAny_pure hQ))
theorem qOk {a p e:Nat} (X:MatchAt s.heap a p e) {Q:PySem.Fin→Shared→Prop}
  (hQ:Q (.done (.ret (.ref s.heap.objs.size))) { s with heap:=s.heap.push { cls:=.type "tuple", data:=.seq #[.int p s.toks,.int e (s.toks+1)] },toks:=s.toks+1+1 }):wpAny M A (Builtin.«re.Match.span» ⟨[.ref a],[]⟩) Q E s:=by
 unfold Builtin.«re.Match.span»
 refine wpAny_bind (qKu X fun x hx=>?_)
 dsimp only
 rw [hx]
 refine wpAny_bind (wpAny_mkInt (wpAny_bind (wpAny_mkInt (wpAny_bind (wpAny_newTuple ?_ (by show (2:Nat)≤sizeLine; decide))))))
 exact wpAny_pure hQ
end
section
variable {prog:Program} {w:World} {A:Around} {E:Value→Shared→Prop} {s:Shared}
theorem qLo {a p e:Nat} (X:MatchAt s.heap a p e) {Q:Value→Shared→Prop} (hQ:Q (.int p s.toks) { s with toks:=s.toks+1 }):wpAny (model prog w) A (call (.builtin "re.Match.start") [.ref a]) Q E s:=by
 obtain ⟨o,ot,vs,items,tp,e₀,t,u,h1,h2,_⟩:=X.there
 refine wpAny_call_entry qBg ⟨o,h1,h2⟩ qIf ?_ (qLw _)
 exact qJh X ⟨_,rfl,hQ⟩
theorem qSb {a p e:Nat} (X:MatchAt s.heap a p e) {Q:Value→Shared→Prop}
  (hQ:Q (.ref s.heap.objs.size) { s with heap:=s.heap.push { cls:=.type "tuple", data:=.seq #[.int p s.toks,.int e (s.toks+1)] },toks:=s.toks+1+1 }):wpAny (model prog w) A (call (.builtin "re.Match.span") [.ref a]) Q E s:=by
 obtain ⟨o,ot,vs,items,tp,e₀,t,u,h1,h2,_⟩:=X.there
 refine wpAny_call_entry qDo ⟨o,h1,h2⟩ qLg ?_ (qSj _)
 exact qOk X ⟨_,rfl,hQ⟩
end
end Mine.Lake.Re
end
noncomputable section
namespace Mine.Lake
open PySem PySem.W PyProof.Rows
inductive X where
 | none
 | bool (b:Bool)
 | int (i:Int)
 | str (s:Str)
 | var (x:Str)
 | cv (x:Str)
 | glob (x:Str)
 | bin (op:Operator) (a b:X)
 | neg (a:X)
 | not (a:X)
 | cmp (op:CmpOp) (a b:X)
 | and (a b:X)
 | or (a b:X)
 | ite (c a b:X)
 | idx (a i:X)
 | slc (a lo hi:X)
 | attr (o:X) (f:Str)
 | list (es:X)
 | tup (es:X)
 | nil
 | cons (a b:X)
 | call (f as:X)
 | meth (o:X) (m:Str) (as:X)
 | comp (elt:X) (x:Str) (it cond:X)
 | lam (ps:List Str) (b:X)
 | named (x:Str) (e:X)
inductive S where
 | brk
 | expr (e:X)
 | asg (x:Str) (e:X)
 | own (x:Str) (e:X)
 | asgC (x:Str) (e:X)
 | setA (o:X) (f:Str) (e:X)
 | ret (e:X)
 | ite (c:X) (a b:S)
 | loop (n:Nat) (c:X) (b o:S)
 | each (x:Str) (it:X) (b:S)
 | assert (e:X)
 | nil
 | seq (a b:S)
 | asg2 (x y:Str) (e:X)
 | cont
 | ret0
 | asgs (x y:Str) (e:X)
 | ownA (o:X) (f x:Str) (e:X)
 | ownL (c:Bool) (x:Str) (e:X)
 | setA2 (o:X) (f:Str) (o':X) (f':Str) (e:X)
 | delL (x:Str)
 | tryA (o:X) (m:Str) (as:X)
 | sq (x tn:Str) (ps:List (Str×Str)) (b:S)
noncomputable def zL (x:Str):Bool:=x != ("__debug__" : Str) && x != ("__classdict__" : Str)
noncomputable def qCq (e:Expr):Prop:=∀ (attr:Str) (env:Env) (whole:Sem Value),attributeBase e attr env whole=whole
noncomputable def qAt (e:Expr):Bool:=match e with
 | .Slice ..=>true
 | _=>false
noncomputable def yI (e:Expr):Bool:=match e with
 | .Starred ..=>true
 | _=>false
noncomputable def jI (e:Expr):Bool:=match e with
 | .Set ..=>true
 | _=>false
noncomputable def qEo (a b:Expr):Bool:=!yI a && !yI b && !(foldedForSure 8 a && foldedForSure 8 b) && !(constantsAlone 8 a && constantsAlone 8 b)
noncomputable def xW (e:Expr):Bool:=match e with
 | .ListComp .. | .SetComp .. | .DictComp ..=>true
 | _=>false
inductive Ph where
 | e (x:Expr)
 | none
 | es (l:List Expr)
 | an (l:List Expr)
 | or (l:List Expr)
 | cond (l:List Expr)
noncomputable def Ph.ofO:Option Expr→Ph
 | some y=>.e y
 | Option.none=>.none
noncomputable def Ph.ofAnd:List Expr→Ph
 | [y]=>.e y
 | l=>.an l
noncomputable def Ph.ofOr:List Expr→Ph
 | [y]=>.e y
 | l=>.or l
noncomputable def Ph.ofCond:List Expr→Ph
 | [y]=>.e y
 | l=>.cond l
noncomputable def jE (x:Str) (sc cs:Scope):Bool:=cs.kind == .function && cs.names.lookup x == some .local &&
 cs.names.all fun p=>p.2 != .cell && (p.2 != .local || cs.names.lookup p.1 == some .local) && (p.2 != .free || sc.names.lookup p.1 == some .cell || sc.names.lookup p.1 == some .free)
noncomputable def distinct:List Str→Bool
 | []=>true
 | x::r=>r.all (fun y=>y != x) && distinct r
noncomputable def keyed (names:List (Str×NameKind)):Bool:=match names with
 | []=>true
 | (x,_)::r=>r.all (fun p=>p.1 != x) && keyed r
structure One (a:Arguments) (ps:List Str):Prop where
 dflt:∀ env,defaultsOf a env=([],[])
 bind:∀ fd:FuncData,fd.params=a→fd.defaults=.none→∀ cargs:List Value,cargs.length=ps.length→bindArgs fd ⟨cargs,[]⟩=pure (ps.zip cargs)
theorem qCy {α:Type} {l:List α} (h:l.length=1):∃ a,l=[a]:=List.length_eq_one_iff.mp h
theorem qQt {α:Type} {l:List α} (h:l.length=2):∃ a b,l=[a,b]:=by
 cases l with
 | nil=>cases h
 | cons a r=>obtain ⟨b,rfl⟩:=qCy (Nat.succ.inj h); exact ⟨a,b,rfl⟩
theorem zNd {α:Type} {l:List α} (h:l.length=3):∃ a b c,l=[a,b,c]:=by
 cases l with
 | nil=>cases h
 | cons a r=>obtain ⟨b,c,rfl⟩:=qQt (Nat.succ.inj h); exact ⟨a,b,c,rfl⟩
theorem qU {an:Option Expr} {p:Pos}:One ⟨[],[⟨"place", an,p⟩],Option.none,[],[],Option.none,[]⟩ ["place"] :=
 ⟨fun _=>rfl,fun fd h1 h2 cargs hl=>by
  obtain ⟨c,rfl⟩:=qCy hl
  cases fd
  simp only at h1 h2
  subst h1 h2
  rfl⟩
noncomputable def jX (ps:List Str) (ls:Scope):Bool:=ls.kind == .function && !ls.isCoroutine && !ls.isGenerator && keyed ls.names && distinct ps && ps.all (fun x=>ls.names.lookup x == some .local) && ls.names.all fun p=>p.2 != .cell
noncomputable def yU (ps:List Str) (sc ls:Scope):Bool:=jX ps ls && ls.names.all fun p=>p.2 != .free || sc.names.lookup p.1 == some .cell || sc.names.lookup p.1 == some .free
class inductive Ok :X→Scope→Ph→Prop
 | none {sc k p}:Ok .none sc (.e (.Constant .none k p))
 | none' {sc}:Ok .none sc .none
 | bool {sc b k p}:Ok (.bool b) sc (.e (.Constant (.bool b) k p))
 | tt {sc}:Ok (.bool true) sc (.cond [])
 | int {sc i k p}:Ok (.int i) sc (.e (.Constant (.int i) k p))
 | str {sc k p} {s:Str}:(decide (s.length≤sizeLine) && PyData.strOk s)=true→Ok (.str s) sc (.e (.Constant (.str s) k p))
 | var {sc x p}:(zL x && sc.names.lookup x == some .local)=true→Ok (.var x) sc (.e (.Name x p))
 | cv {sc x p}:(zL x && (sc.names.lookup x == some .cell || sc.names.lookup x == some .free))=true→Ok (.cv x) sc (.e (.Name x p))
 | glob {sc x p}:(zL x && sc.names.lookup x == some .globalImplicit)=true→Ok (.glob x) sc (.e (.Name x p))
 | bin {sc op a b l r p}:Ok a sc (.e l)→Ok b sc (.e r)→Ok (.bin op a b) sc (.e (.BinOp l op r p))
 | neg {sc a e p}:Ok a sc (.e e)→Ok (.neg a) sc (.e (.UnaryOp .USub e p))
 | not {sc a e p}:Ok a sc (.e e)→Ok (.not a) sc (.e (.UnaryOp .Not e p))
 | cmp {sc op a b l r p}:Ok a sc (.e l)→Ok b sc (.e r)→behindInMarks op r=false→Ok (.cmp op a b) sc (.e (.Compare l [op] [r] p))
 | and {sc a b e es p}:Ok a sc (.e e)→Ok b sc (.ofAnd es)→Ok (.and a b) sc (.e (.BoolOp .And (e::es) p))
 | and' {sc a b e es}:Ok a sc (.e e)→Ok b sc (.ofAnd es)→Ok (.and a b) sc (.an (e::es))
 | or {sc a b e es p}:Ok a sc (.e e)→Ok b sc (.ofOr es)→Ok (.or a b) sc (.e (.BoolOp .Or (e::es) p))
 | or' {sc a b e es}:Ok a sc (.e e)→Ok b sc (.ofOr es)→Ok (.or a b) sc (.or (e::es))
 | ite {sc c a b t x y p}:Ok c sc (.e t)→Ok a sc (.e x)→Ok b sc (.e y)→Ok (.ite c a b) sc (.e (.IfExp t x y p))
 | idx {sc a i v sl p}:Ok a sc (.e v)→Ok i sc (.e sl)→qAt sl=false→Ok (.idx a i) sc (.e (.Subscript v sl p))
 | slc {sc a lo hi v l h p q}:Ok a sc (.e v)→Ok lo sc (.ofO l)→Ok hi sc (.ofO h)→Ok (.slc a lo hi) sc (.e (.Subscript v (.Slice l h Option.none q) p))
 | attr {sc o f e p}:Ok o sc (.e e)→qCq e→Ok (.attr o f) sc (.e (.Attribute e f p))
 | list {sc es l p}:Ok es sc (.es l)→Ok (.list es) sc (.e (.List l p))
 | tup {sc es l k p}:Ok es sc (.es l)→Ok (.tup es) sc (.e (.Tuple l k p))
 | nil {sc}:Ok .nil sc (.es [])
 | cons {sc a b e r}:Ok a sc (.e e)→Ok b sc (.es r)→yI e=false→Ok (.cons a b) sc (.es (e::r))
 | call {sc f as n p l q}:Ok f sc (.e (.Name n p))→Ok as sc (.es l)→Ok (.call f as) sc (.e (.Call (.Name n p) l [] q))
 | meth {sc o m as e ap l q}:Ok o sc (.e e)→Ok as sc (.es l)→qCq e→(decide (l.length < 30) && ap.endLine == q.line)=true→Ok (.meth o m as) sc (.e (.Call (.Attribute e m ap) l [] q))
 | comp {sc elt x it cond e yp i ifs cs p}:Ok it sc (.e i)→Ok elt cs (.e e)→Ok cond cs (.ofCond ifs)→jE x sc cs=true→jI i=false→Ok (.comp elt x it cond) sc (.e (.ListComp e [⟨.Name x yp,i,ifs,0⟩] cs p))
 | lam {sc ps b a body ls p}:One a ps→Ok b ls (.e body)→yU ps sc ls=true→Ok (.lam ps b) sc (.e (.Lambda a body ls p))
 | named {sc x e v q p}:sc.names.lookup x=some .local→Ok e sc (.e v)→Ok (.named x e) sc (.e (.NamedExpr (.Name x q) v p))
noncomputable def qVx (a b:Str):Bool:=(Builtin.Str.occurrences ⟨#[]⟩ a 0 0 1).isEmpty && !(a == b)
class inductive Reps  (x:Str):List (Str×Str)→List Stmt→List Stmt→Prop
 | nil {r}:Reps x [] r r
 | cons {a b ps q q2 ap p1 p2 r p k1 k2 l l'}:(qVx a b && decide (a.length≤sizeLine) && decide (b.length≤sizeLine) && ap.endLine == r.line)=true→Reps x ps l l' →
  Reps x ((a,b)::ps) (.Assign [.Name x q] (.Call (.Attribute (.Name x q2) "replace" ap) [.Constant (.str a) k1 p1,.Constant (.str b) k2 p2] [] r) p::l) l'
inductive Pt where
 | s (x:Stmt)
 | l (x:List Stmt)
class inductive TieS :S→Scope→Pt→Prop
 | brk {sc p}:TieS .brk sc (.s (.Break p))
 | expr {sc e v p}:Ok e sc (.e v)→xW v=false→TieS (.expr e) sc (.s (.Expr v p))
 | asg {sc x e q v p}:sc.names.lookup x=some .local→Ok e sc (.e v)→xW v=false→TieS (.asg x e) sc (.s (.Assign [.Name x q] v p))
 | own {sc x e q l p r}:sc.names.lookup x=some .local→Ok e sc (.es l)→TieS (.own x (.list e)) sc (.s (.Assign [.Name x q] (.List l r) p))
 | ownL {sc x elt y it cond q e yp i ifs cs lp p}:sc.names.lookup x=some .local→Ok it sc (.e i)→Ok elt cs (.e e)→Ok cond cs (.ofCond ifs)→jE y sc cs=true→jI i=false→TieS (.own x (.comp elt y it cond)) sc (.s (.Assign [.Name x q] (.ListComp e [⟨.Name y yp,i,ifs,0⟩] cs lp) p))
 | asgC {sc x e q v p}:sc.names.lookup x=some .cell→Ok e sc (.e v)→xW v=false→TieS (.asgC x e) sc (.s (.Assign [.Name x q] v p))
 | setA {sc o f e t q v p}:Ok o sc (.e t)→Ok e sc (.e v)→xW v=false→TieS (.setA o f e) sc (.s (.Assign [.Attribute t f q] v p))
 | ret {sc e v p}:Ok e sc (.e v)→TieS (.ret e) sc (.s (.Return (some v) p))
 | ite {sc c a b t x y p}:Ok c sc (.e t)→TieS a sc (.l x)→TieS b sc (.l y)→TieS (.ite c a b) sc (.s (.If t x y p))
 | loop {sc n c b o t x y p}:Ok c sc (.e t)→TieS b sc (.l x)→TieS o sc (.l y)→TieS (.loop n c b o) sc (.s (.While t x y p))
 | each {sc x it b q i z p}:sc.names.lookup x=some .local→Ok it sc (.e i)→TieS b sc (.l z)→jI i=false→TieS (.each x it b) sc (.s (.For (.Name x q) i z [] p))
 | assert {sc e t p}:Ok e sc (.e t)→TieS (.assert e) sc (.s (.Assert t Option.none p))
 | nil {sc}:TieS .nil sc (.l [])
 | seq {sc a b x r}:TieS a sc (.s x)→TieS b sc (.l r)→TieS (.seq a b) sc (.l (x::r))
 | asg2 {sc x y e q₁ q₂ k q g as ks r p}:sc.names.lookup x=some .local→sc.names.lookup y=some .local→Ok e sc (.e (.Call g as ks r))→TieS (.asg2 x y e) sc (.s (.Assign [.Tuple [.Name x q₁,.Name y q₂] k q] (.Call g as ks r) p))
 | asg2s {sc x y e q₁ q₂ k q a b k' r p}:sc.names.lookup x=some .local→sc.names.lookup y=some .local→Ok e sc (.e (.Tuple [a,b] k' r))→qEo a b=true→(x != y && q₁.line == q₂.line)=true→TieS (.asg2 x y e) sc (.s (.Assign [.Tuple [.Name x q₁,.Name y q₂] k q] (.Tuple [a,b] k' r) p))
 | cont {sc p}:TieS .cont sc (.s (.Continue p))
 | ret0 {sc p}:TieS .ret0 sc (.s (.Return Option.none p))
 | asgs {sc x y e q₁ q₂ v p}:sc.names.lookup x=some .local→sc.names.lookup y=some .local→Ok e sc (.e v)→xW v=false→TieS (.asgs x y e) sc (.s (.Assign [.Name x q₁,.Name y q₂] v p))
 | ownA {sc o f x es t q₁ q₂ l r p}:sc.names.lookup x=some .local→Ok o sc (.e t)→Ok es sc (.es l)→TieS (.ownA o f x (.list es)) sc (.s (.Assign [.Attribute t f q₁,.Name x q₂] (.List l r) p))
 | newL {sc c x e q n a r p}:sc.names.lookup x=some (if c=true then .cell else .local)→Ok (.glob "list") sc (.e n)→Ok e sc (.e a)→yI a=false→(∃ y q,n=.Name y q)→TieS (.ownL c x e) sc (.s (.Assign [.Name x q] (.Call n [a] [] r) p))
 | setA2 {sc o f o' f' e t t' q₁ q₂ k q a b k' r p}:Ok o sc (.e t)→Ok o' sc (.e t')→Ok e sc (.e (.Tuple [a,b] k' r))→TieS (.setA2 o f o' f' e) sc (.s (.Assign [.Tuple [.Attribute t f q₁,.Attribute t' f' q₂] k q] (.Tuple [a,b] k' r) p))
 | delL {sc x q p₁ k p₂ p₃ p}:(zL x && sc.names.lookup x == some .local)=true→TieS (.delL x) sc (.s (.Delete [.Subscript (.Name x q) (.UnaryOp .USub (.Constant (.int 1) k p₁) p₂) p₃] p))
 | tryA {sc o m as t l ap r p₁ v rp c px pp ph p}:Ok o sc (.e t)→Ok as sc (.es l)→qCq t→(decide (l.length < 30) && ap.endLine == r.line)=true→(c == ("AssertionError" : Str) && sc.names.lookup c == some .globalImplicit)=true →
  TieS (.tryA o m as) sc (.s (.Try [.Expr (.Call (.Attribute t m ap) l [] r) p₁,.Return v rp] [.ExceptHandler (some (.Name c px)) Option.none [.Pass pp] ph] [] [] p))
 | sq {sc x tn ps b q q2 ap p1 r p l l'}:(zL x && sc.names.lookup x == some .local)=true→Ok (.glob tn) sc (.e (.Name tn p1))→ap.endLine=r.line→Reps x ps l l'→TieS b sc (.l l') →
  TieS (.sq x tn ps b) sc (.l (.Assign [.Name x q] (.Call (.Attribute (.Name x q2) "translate" ap) [.Name tn p1] [] r) p::l))
set_option genCtorIdx true in
inductive V where
 | none
 | bool (b:Bool)
 | int (i:Int)
 | str (s:Str)
 | list (xs:List V)
 | tup (xs:List V)
 | ref (k:Nat)
 | rng (a b c:Int)
 | mt (p e:Nat)
 | bnd (k:Nat)
 | clo (ps:List Str) (x:X) (cs:List (Str×Nat))
 | top (v:Value)
set_option genCtorIdx true in
inductive O where
 | list (xs:List V)
 | inst (C:Addr) (d:Nat)
 | dict (fs:List (Str×V))
 | cell (v:Option V)
 | tab (q:Str)
structure Wd where
 ρ:Nat→Nat
 fz:Nat→Option Obj
noncomputable def xC (a:Addr):Obj:={ cls:=.type "builtin_function_or_method", data:=.fields #[.builtin "list.append", .ref a] }
noncomputable def CodeFz (W:Wd) (cv:Value) (q:Str):Prop:=∃ c oc vs t,cv=.ref c∧W.fz c=some oc∧oc.data=.fields vs∧vs[1]? = some (.str q t)
structure CloOk (W:Wd) (n:Nat) (ps:List Str) (x:X) (cs:List (Str×Nat)) (fd:FuncData):Prop where
 body:∃ e,fd.body=.expr e∧Ok x fd.scope (.e e)
 shape:jX ps fd.scope=true
 code:CodeFz W fd.code fd.qualname
 glob:fd.globals=mainGlobals
 bns:fd.builtins=builtinsNs
 args:∀ cargs:List Value,cargs.length=ps.length→bindArgs fd ⟨cargs,[]⟩=pure (ps.zip cargs)
 free:∀ y,fd.scope.names.lookup y=some .free→∃ a,fd.closure.lookup y=some a
 cel:∀ y k,cs.lookup y=some k→k < n∧(fd.scope.names.lookup y=some .free→fd.closure.lookup y=some (W.ρ k))
mutual
inductive VR (W:Wd) (n:Nat):V→Value→Prop
 | none:VR W n .none .none
 | bool (b:Bool):VR W n (.bool b) (.bool b)
 | int (i:Int) (t:Tok):VR W n (.int i) (.int i t)
 | str (s:Str) (t:Tok):s.length≤sizeLine→PyData.strOk s=true→VR W n (.str s) (.str s t)
 | list {a:Addr} {o:Obj} {items:Array Value} {e:Nat} {xs:List V}:W.fz a=some o→o.cls=.type "list" → o.data=.seq items e→items.size≤sizeLine→VRs W n xs items.toList→o.dict=Option.none→VR W n (.list xs) (.ref a)
 | tup {a:Addr} {o:Obj} {items:Array Value} {e:Nat} {xs:List V}:W.fz a=some o→o.cls=.type "tuple" → o.data=.seq items e→items.size≤sizeLine→VRs W n xs items.toList→VR W n (.tup xs) (.ref a)
 | ref {k:Nat}:k < n→VR W n (.ref k) (.ref (W.ρ k))
 | rng {r:Nat} {a b c:Int} {t u v:Tok}:W.fz r=some { cls:=.type "range", dict:=Option.none,data:=.fields #[.int a t,.int b u,.int c v],slots:=#[] }→Builtin.Range.small a b c=true→VR W n (.rng a b c) (.ref r)
 | mt {a tp:Nat} {o ot:Obj} {vs:Array Value} {items:Array Value} {e₀:Nat} {p e:Nat} {t u:Tok}:W.fz a=some o→o.cls=.type "re.Match" → o.data=.fields vs→vs.getD 5 .none=.ref tp→W.fz tp=some ot→ot.data=.seq items e₀→items.toList=[.int p t,.int e u]→o.dict=Option.none→VR W n (.mt p e) (.ref a)
 | bnd {b k:Nat}:k < n→W.fz b=some (xC (W.ρ k))→VR W n (.bnd k) (.ref b)
 | clo {a:Nat} {o:Obj} {fd:FuncData} {ps:List Str} {x:X} {cs:List (Str×Nat)}:W.fz a=some o→o.data=.func fd→CloOk W n ps x cs fd→VR W n (.clo ps x cs) (.ref a)
 | top (v:Value):VR W n (.top v) v
inductive VRs (W:Wd) (n:Nat):List V→List Value→Prop
 | nil:VRs W n [] []
 | cons {x:V} {c:Value} {xs:List V} {cs:List Value}:VR W n x c→VRs W n xs cs→VRs W n (x::xs) (c::cs)
end
structure Wle (n:Nat) (W W':Wd):Prop where
 ρ:∀ k,k < n→W'.ρ k=W.ρ k
 fz:∀ a c,W.fz a=some c→W'.fz a=some c
theorem Wle.refl (n:Nat) (W:Wd):Wle n W W:=⟨fun _ _=>rfl,fun _ _ e=>e⟩
theorem Wle.trans {n n':Nat} {W W' W'':Wd} (a:Wle n W W') (hn:n≤n') (b:Wle n' W' W''):Wle n W W'' :=
 ⟨fun k hk=>(b.ρ k (Nat.lt_of_lt_of_le hk hn)).trans (a.ρ k hk),fun x c e=>b.fz x c (a.fz x c e)⟩
theorem CodeFz.mono {W W':Wd} {n:Nat} {cv:Value} {q:Str} (l:Wle n W W') (h:CodeFz W cv q):CodeFz W' cv q :=
 let ⟨c,oc,vs,t,h1,h2,h3,h4⟩:=h; ⟨c,oc,vs,t,h1,l.fz _ _ h2,h3,h4⟩
theorem CloOk.mono {W W':Wd} {n n':Nat} (l:Wle n W W') (hn:n≤n') {ps:List Str} {x:X} {cs:List (Str×Nat)} {fd:FuncData} (h:CloOk W n ps x cs fd):CloOk W' n' ps x cs fd :=
 ⟨h.body,h.shape,h.code.mono l,h.glob,h.bns,h.args,h.free,fun y k hk=>⟨Nat.lt_of_lt_of_le (h.cel y k hk).1 hn,fun hf=>by rw [l.ρ k (h.cel y k hk).1]; exact (h.cel y k hk).2 hf⟩⟩
theorem VR.inv_int {W:Wd} {n:Nat} {i:Int} {c:Value} (h:VR W n (.int i) c):∃ t,c=.int i t:=by cases h; exact ⟨_,rfl⟩
theorem VR.inv_str {W:Wd} {n:Nat} {x:Str} {c:Value} (h:VR W n (.str x) c):∃ t,c=.str x t∧x.length≤sizeLine∧PyData.strOk x=true:=by cases h; exact ⟨_,rfl,‹_›,‹_›⟩
theorem VR.inv_ref {W:Wd} {n k:Nat} {c:Value} (h:VR W n (.ref k) c):c=.ref (W.ρ k)∧k < n:=by cases h; exact ⟨rfl,‹_›⟩
theorem VR.inv_list {W:Wd} {n:Nat} {xs:List V} {c:Value} (h:VR W n (.list xs) c):∃ a o,c=.ref a∧W.fz a=some o∧o.cls=.type "list" ∧ o.dict=Option.none:=by cases h; exact ⟨_,_,rfl,‹_›,‹_›,‹_›⟩
theorem VR.inv_top {W:Wd} {n:Nat} {v c:Value} (h:VR W n (.top v) c):c=v:=by cases h; rfl
theorem VRs.inv_nil {W:Wd} {n:Nat} {cs:List Value} (h:VRs W n [] cs):cs=[]:=by cases h; rfl
theorem VRs.inv_cons {W:Wd} {n:Nat} {x:V} {xs:List V} {cs:List Value} (h:VRs W n (x::xs) cs):∃ c ds,cs=c::ds∧VR W n x c∧VRs W n xs ds:=by cases h; exact ⟨_,_,rfl,‹_›,‹_›⟩
theorem VRs.inv1 {W:Wd} {n:Nat} {x:V} {cs:List Value} (h:VRs W n [x] cs):∃ c,cs=[c]∧VR W n x c:=by
 obtain ⟨c,ds,rfl,a,b⟩:=h.inv_cons
 obtain rfl:=b.inv_nil
 exact ⟨c,rfl,a⟩
theorem VRs.inv2 {W:Wd} {n:Nat} {x y:V} {cs:List Value} (h:VRs W n [x,y] cs):∃ c d,cs=[c,d]∧VR W n x c∧VR W n y d:=by
 obtain ⟨c,ds,rfl,a,b⟩:=h.inv_cons
 obtain ⟨d,rfl,b'⟩:=b.inv1
 exact ⟨c,d,rfl,a,b'⟩
theorem VR.mono {W W':Wd} {n n':Nat} (l:Wle n W W') (hn:n≤n') {v:V} {c:Value} (h:VR W n v c):VR W' n' v c :=
 VR.rec (motive_1:=fun v c _=>VR W' n' v c) (motive_2:=fun v c _=>VRs W' n' v c) .none .bool .int .str
  (fun a b c s _ e d=>.list (l.fz _ _ a) b c s d e) (fun a b c s _ d=>.tup (l.fz _ _ a) b c s d) (fun {k} h=>by rw [← l.ρ k h]; exact .ref (Nat.lt_of_lt_of_le h hn))
  (fun a b=>.rng (l.fz _ _ a) b) (fun a b c d e f g h=>.mt (l.fz _ _ a) b c d (l.fz _ _ e) f g h) (fun {_ k} h e=>.bnd (Nat.lt_of_lt_of_le h hn) (by rw [l.ρ k h]; exact l.fz _ _ e)) (fun a b c=>.clo (l.fz _ _ a) b (c.mono l hn)) .top .nil (fun _ _ a b=>.cons a b) h
theorem VRs.ind {W:Wd} {n:Nat} {C:List V→List Value→Prop} (h1:C [] []) (h2:∀ {x c xs cs},VR W n x c→VRs W n xs cs→C xs cs→C (x::xs) (c::cs)) {xs:List V} {cs:List Value} (h:VRs W n xs cs):C xs cs :=
 VRs.rec (motive_1:=fun _ _ _=>True) (motive_2:=fun xs cs _=>C xs cs) trivial (fun _=>trivial) (fun _ _=>trivial) (fun _ _ _ _=>trivial) (fun _ _ _ _ _ _ _=>trivial) (fun _ _ _ _ _ _=>trivial) (fun _=>trivial) (fun _ _=>trivial) (fun _ _ _ _ _ _ _ _=>trivial) (fun _ _=>trivial) (fun _ _ _=>trivial) (fun _=>trivial) h1 (fun a b _ ih=>h2 a b ih) h
theorem VRs.mono {W W':Wd} {n n':Nat} (l:Wle n W W') (hn:n≤n') {v:List V} {c:List Value} (h:VRs W n v c):VRs W' n' v c :=
 h.ind .nil fun a _ ih=>.cons (a.mono l hn) ih
theorem VRs.length {W:Wd} {n:Nat} {xs:List V} {cs:List Value} (h:VRs W n xs cs):cs.length=xs.length :=
 h.ind (C:=fun xs cs=>cs.length=xs.length) rfl fun _ _ ih=>congrArg Nat.succ ih
theorem VRs.get {W:Wd} {n:Nat} {xs:List V} {cs:List Value} (h:VRs W n xs cs):∀ {i:Nat} {x:V},xs[i]? = some x→∃ c,cs[i]? = some c∧VR W n x c:=by
 refine h.ind (C:=fun xs cs=>∀ {i:Nat} {x:V},xs[i]? = some x→∃ c,cs[i]? = some c∧VR W n x c) (fun e=>nomatch e) ?_
 intro _ _ _ _ a _ ih i x e
 cases i with
 | zero=>cases e; exact ⟨_,rfl,a⟩
 | succ i=>exact ih (i:=i) e
theorem VRs.append {W:Wd} {n:Nat} {xs ys:List V} {cs ds:List Value} (h:VRs W n xs cs) (b:VRs W n ys ds):VRs W n (xs++ys) (cs++ds) :=
 h.ind (C:=fun xs cs=>VRs W n (xs++ys) (cs++ds)) b fun a _ ih=>.cons a ih
theorem VRs.drop {W:Wd} {n:Nat} {xs:List V} {cs:List Value} (i:Nat) (h:VRs W n xs cs):VRs W n (xs.drop i) (cs.drop i):=by
 refine h.ind (C:=fun xs cs=>∀ i,VRs W n (xs.drop i) (cs.drop i)) (fun i=>by rw [List.drop_nil,List.drop_nil]; exact .nil) ?_ i
 intro _ _ _ _ a r ih i
 cases i with
 | zero=>exact .cons a r
 | succ i=>exact ih i
theorem VRs.take {W:Wd} {n:Nat} {xs:List V} {cs:List Value} (i:Nat) (h:VRs W n xs cs):VRs W n (xs.take i) (cs.take i):=by
 refine h.ind (C:=fun xs cs=>∀ i,VRs W n (xs.take i) (cs.take i)) (fun i=>by rw [List.take_nil,List.take_nil]; exact .nil) ?_ i
 intro _ _ _ _ a r ih i
 cases i with
 | zero=>exact .nil
 | succ i=>exact .cons a (ih i)
theorem VRs.reverse {W:Wd} {n:Nat} {xs:List V} {cs:List Value} (h:VRs W n xs cs):VRs W n xs.reverse cs.reverse :=
 h.ind (C:=fun xs cs=>VRs W n xs.reverse cs.reverse) .nil fun a _ ih=>by rw [List.reverse_cons,List.reverse_cons]; exact ih.append (.cons a .nil)
class inductive FR  (W:Wd) (n:Nat):List (Str×V)→List DictEntry→Prop
 | nil:FR W n [] []
 | cons {x:Str} {v:V} {c:Value} {hsh:Int} {t:Tok} {fs:List (Str×V)} {es:List DictEntry}:VR W n v c→FR W n fs es→FR W n ((x,v)::fs) (⟨hsh,.str x t,c⟩::es)
theorem FR.mono {W W':Wd} {n n':Nat} (l:Wle n W W') (hn:n≤n'):∀ {v:List (Str×V)} {c:List DictEntry},FR W n v c→FR W' n' v c
 | _,_,.nil=>.nil
 | _,_,.cons a b=>.cons (a.mono l hn) (b.mono l hn)
noncomputable def zNu (W:Wd) (q:Str) (ps:Array Value):Prop:=TriplesOk ps.toList∧∀ pos cv,codeAmong pos ps.toList=some cv→CodeFz W cv q
inductive OR (W:Wd) (n:Nat):O→Obj→Prop
 | list {items:Array Value} {e:Nat} {xs:List V}:VRs W n xs items.toList→items.size≤sizeLine→OR W n (.list xs) (listOf items e)
 | inst {C:Addr} {d:Nat}:d < n→OR W n (.inst C d) (instObj C (W.ρ d))
 | dict {fs:List (Str×V)} {es:List DictEntry} {e:Nat}:FR W n fs es→OR W n (.dict fs) (dictOf es e)
 | cell {o:Obj} {v:V} {c:Value}:o.data=.cell (some c)→VR W n v c→OR W n (.cell (some v)) o
 | nocell {o:Obj}:o.data=.cell .none→OR W n (.cell .none) o
 | tab {q:Str} {ps:Array Value}:zNu W q ps→OR W n (.tab q) (tabObj ps)
theorem OR.mono {W W':Wd} {n n':Nat} (l:Wle n W W') (hn:n≤n') {o:O} {c:Obj} (h:OR W n o c):OR W' n' o c:=by
 cases h with
 | list d z=>exact .list (d.mono l hn) z
 | inst h=>rw [← l.ρ _ h]; exact .inst (Nat.lt_of_lt_of_le h hn)
 | dict h=>exact .dict (h.mono l hn)
 | cell h r=>exact .cell h (r.mono l hn)
 | nocell h=>exact .nocell h
 | tab h=>exact .tab ⟨h.1,fun pos cv e=>(h.2 pos cv e).mono l⟩
theorem OR.inv_list {W:Wd} {n:Nat} {xs:List V} {c:Obj} (h:OR W n (.list xs) c):∃ items e,c=listOf items e∧VRs W n xs items.toList∧items.size≤sizeLine:=by cases h; exact ⟨_,_,rfl,‹_›,‹_›⟩
theorem OR.unfreed {W:Wd} {n:Nat} {o:O} {c:Obj} (h:OR W n o c):c.isFreed=false:=by
 cases h with
 | list d z=>rfl
 | inst h=>rfl
 | dict h=>rfl
 | cell h r=>obtain ⟨c,d,dt,sl⟩:=c; simp only at h; subst h; rfl
 | nocell h=>obtain ⟨c,d,dt,sl⟩:=c; simp only at h; subst h; rfl
 | tab h=>rfl
structure Hp where
 obj:Nat→Option O
 nxt:Nat
structure St extends Hp where
 loc:List (Str×V)
 cel:List (Str×Nat):=[]
 tbl:Option (Nat×Str):=none
structure Par where
 prog:Program
 w:World
 B:Heap
 os:OsState
 ex:Option (Nat×Obj):=none
 T:Nat
noncomputable abbrev Par.M (P:Par):Model:=model P.prog P.w
structure Inv (P:Par) (fr:List Nat) (W:Wd) (σ:Hp) (s:Shared):Prop where
 keep:∀ b o,P.B.get? b=some o→s.heap.get? b=some o
 old:∀ k,k < σ.nxt→P.B.get? (W.ρ k)=none
 live:∀ k,k < σ.nxt→∃ o,s.heap.get? (W.ρ k)=some o
 nofr:∀ k,k < σ.nxt→W.ρ k ∉ fr
 nofz:∀ k,k < σ.nxt→W.fz (W.ρ k)=none
 inj:∀ i j,i < σ.nxt→j < σ.nxt→W.ρ i=W.ρ j→i=j
 obj:∀ k o,σ.obj k=some o→k < σ.nxt∧∃ c,s.heap.get? (W.ρ k)=some c∧OR W σ.nxt o c
 frz:∀ (a:Nat) c,W.fz a=some c→s.heap.get? a=some c∧a ∉ fr
 frB:∀ a∈fr,P.B.get? a=none∧∃ o,s.heap.get? a=some o∧∀ vs,o.data≠.fields vs
 gens:s.gens = #[]
 os:s.os=P.os
 exc:∀ e ob,P.ex=some (e,ob)→W.fz e=some ob
 tab0:0 < σ.nxt∧W.ρ 0=P.T
structure Loc (P:Par) (env:Env) (W:Wd) (σ:St) (h:Heap):Prop where
 kind:env.scope.kind=.function
 glob:env.globals=mainGlobals
 bns:env.builtins=builtinsNs
 loc:∃ m,h.Ns env.locals m∧∀ x v,σ.loc.lookup x=some v→env.kindOf x=some .local∧∃ c,m x=some c∧VR W σ.nxt v c
 cel:∀ x k,σ.cel.lookup x=some k→k < σ.nxt∧((env.kindOf x=some .cell∨env.kindOf x=some .free)→env.cells.lookup x=some (W.ρ k))
 cod:∀ k q,σ.tbl=some (k,q)→k < σ.nxt∧env.qual++Str.ofString "<lambda>" = q∧∃ c,env.code=.ref c∧CodeHd P.B c (W.ρ k)
structure Nx (fr:List Nat) (L:Nat) (W:Wd) (n:Nat) (h:Heap) (W':Wd) (n':Nat) (h':Heap):Prop where
 wle:Wle n W W'
 le:n≤n'
 live:∀ a o,h.get? a=some o→∃ o',h'.get? a=some o'
 new:∀ k,n≤k→k < n'→h.get? (W'.ρ k)=none
 fzn:∀ a c,W'.fz a=some c→W.fz a=some c∨h.get? a=none
 ext:∀ (a:Nat) o,h.get? a=some o→a≠L→a ∉ fr→(∀ k,k < n→W.ρ k≠a)→h'.get? a=some o
 fext:∀ (a:Nat) o,a∈fr→a≠L→h.get? a=some o→∃ o',h'.get? a=some o'∧o'.data=o.data
theorem Nx.refl (fr:List Nat) (L:Nat) (W:Wd) (n:Nat) (h:Heap):Nx fr L W n h W n h :=
 ⟨.refl n W,Nat.le_refl _,fun _ o e=>⟨o,e⟩,fun _ a b=>absurd b (Nat.not_lt.mpr a),fun _ _ e=>.inl e,fun _ _ e _ _ _=>e,fun _ o _ _ e=>⟨o,e,rfl⟩⟩
theorem Nx.trans {fr:List Nat} {L:Nat} {W W' W'':Wd} {n n' n'':Nat} {h h' h'':Heap} (a:Nx fr L W n h W' n' h') (b:Nx fr L W' n' h' W'' n'' h''):Nx fr L W n h W'' n'' h'' where
 wle:=a.wle.trans a.le b.wle
 le:=Nat.le_trans a.le b.le
 live:=fun x o e=>let ⟨o',e'⟩:=a.live x o e; b.live x o' e'
 new:=fun k h1 h2=>by
  by_cases hk:k < n'
  ·rw [b.wle.ρ k hk]; exact a.new k h1 hk
  ·cases q:h.get? (W''.ρ k) with
   | none=>rfl
   | some o=>obtain ⟨o',e'⟩:=a.live _ _ q; rw [b.new k (Nat.not_lt.mp hk) h2] at e'; cases e'
 fzn:=fun x c e=>by
  rcases b.fzn x c e with q | q
  ·exact a.fzn x c q
  ·right
   cases hq:h.get? x with
   | none=>rfl
   | some o=>obtain ⟨o',e'⟩:=a.live _ _ hq; rw [q] at e'; cases e'
 ext:=fun x o e h1 h0 h2=>b.ext x o (a.ext x o e h1 h0 h2) h1 h0 fun k hk q=>by
  by_cases hn:k < n
  ·rw [a.wle.ρ k hn] at q; exact h2 k hn q
  ·have:=a.new k (Nat.not_lt.mp hn) hk
   rw [q,e] at this; cases this
 fext:=fun x o h1 h2 e=>by
  obtain ⟨o',e',d'⟩:=a.fext x o h1 h2 e
  obtain ⟨o'',e'',d''⟩:=b.fext x o' h1 h2 e'
  exact ⟨o'',e'',d''.trans d'⟩
theorem Nx.keeps {fr:List Nat} {L:Nat} {W W':Wd} {n n':Nat} {h h':Heap} (wl:Wle n W W') (le:n≤n') (hk:∀ b o,h.get? b=some o→h'.get? b=some o) (new:∀ k,n≤k→k < n'→h.get? (W'.ρ k)=none) (fzn:∀ a c,W'.fz a=some c→W.fz a=some c∨h.get? a=none):Nx fr L W n h W' n' h' :=
 ⟨wl,le,fun _ o e=>⟨o,hk _ _ e⟩,new,fzn,fun _ _ e _ _ _=>hk _ _ e,fun _ o _ _ e=>⟨o,hk _ _ e,rfl⟩⟩
structure Step (P:Par) (fr:List Nat) (env:Env) (W:Wd) (σ:St) (s:Shared) (W':Wd) (σ':St) (s':Shared):Prop where
 nx:Nx fr env.locals W σ.nxt s.heap W' σ'.nxt s'.heap
 inv:Inv P fr W' σ'.toHp s'
 loc:Loc P env W' σ' s'.heap
theorem Step.trans {P:Par} {fr:List Nat} {env:Env} {W W' W'':Wd} {σ σ' σ'':St} {s s' s'':Shared} (a:Step P fr env W σ s W' σ' s') (b:Step P fr env W' σ' s' W'' σ'' s''):Step P fr env W σ s W'' σ'' s'' :=
 ⟨a.nx.trans b.nx,b.inv,b.loc⟩
section
variable {P:Par} {fr:List Nat} {env:Env} {W:Wd} {σ:St} {s:Shared}
theorem Inv.toks (I:Inv P fr W σ.toHp s) (t:Nat):Inv P fr W σ.toHp { s with toks:=t } :=
 ⟨I.keep,I.old,I.live,I.nofr,I.nofz,I.inj,I.obj,I.frz,I.frB,I.gens,I.os,I.exc,I.tab0⟩
theorem Step.toks (I:Inv P fr W σ.toHp s) (L:Loc P env W σ s.heap) (t:Nat):Step P fr env W σ s W σ { s with toks:=t } :=
 ⟨.refl ..,I.toks t,L⟩
theorem Step.refl (I:Inv P fr W σ.toHp s) (L:Loc P env W σ s.heap):Step P fr env W σ s W σ s:=⟨.refl ..,I,L⟩
theorem Inv.grow (I:Inv P fr W σ.toHp s) {s':Shared} (hk:∀ b o,s.heap.get? b=some o→s'.heap.get? b=some o) (hg:s'.gens=s.gens) (ho:s'.os=s.os):Inv P fr W σ.toHp s' where
 keep:=fun b o e=>hk _ _ (I.keep b o e)
 old:=I.old
 live:=fun k h=>let ⟨o,e⟩:=I.live k h; ⟨o,hk _ _ e⟩
 nofr:=I.nofr
 nofz:=I.nofz
 inj:=I.inj
 obj:=fun k o e=>let ⟨a,c,b,d⟩:=I.obj k o e; ⟨a,c,hk _ _ b,d⟩
 frz:=fun a c e=>⟨hk _ _ (I.frz a c e).1,(I.frz a c e).2⟩
 frB:=fun a h=>⟨(I.frB a h).1,let ⟨o,e,d⟩:=(I.frB a h).2; ⟨o,hk _ _ e,d⟩⟩
 gens:=hg.trans I.gens
 os:=ho.trans I.os
 exc:=I.exc
 tab0:=I.tab0
theorem Loc.grow (L:Loc P env W σ s.heap) {h':Heap} (hk:∀ b o,s.heap.get? b=some o→h'.get? b=some o):Loc P env W σ h' :=
 ⟨L.kind,L.glob,L.bns,let ⟨m,a,b⟩:=L.loc; ⟨m,a.keeps hk,b⟩,L.cel,L.cod⟩
theorem Step.grow (I:Inv P fr W σ.toHp s) (L:Loc P env W σ s.heap) {s':Shared} (hk:∀ b o,s.heap.get? b=some o→s'.heap.get? b=some o) (hg:s'.gens=s.gens) (ho:s'.os=s.os) :
  Step P fr env W σ s W σ s' :=
 ⟨.keeps (.refl ..) (Nat.le_refl _) hk (fun _ a b=>absurd b (Nat.not_lt.mpr a)) (fun _ _ e=>.inl e),I.grow hk hg ho,L.grow hk⟩
theorem Step.push (I:Inv P fr W σ.toHp s) (L:Loc P env W σ s.heap) (o:Obj) {s':Shared} (e:s'.heap=s.heap.push o) (hg:s'.gens=s.gens) (ho:s'.os=s.os):Step P fr env W σ s W σ s' :=
 Step.grow I L (fun _ _ x=>e ▸ Heap.get?_push_of_some _ x) hg ho
noncomputable def Wd.freeze (W:Wd) (a:Nat) (o:Obj):Wd:={ W with fz:=fun b=>if b=a then some o else W.fz b }
theorem Step.freezeAt (I:Inv P fr W σ.toHp s) (L:Loc P env W σ s.heap) (o:Obj) (a:Nat) (hn:s.heap.get? a=none) {s':Shared} (hk:∀ b o',s.heap.get? b=some o'→s'.heap.get? b=some o') (ha:s'.heap.get? a=some o) (hg:s'.gens=s.gens) (ho:s'.os=s.os) :
  Step P fr env W σ s (W.freeze a o) σ s':=by
 have hfz:∀ b c,W.fz b=some c→(W.freeze a o).fz b=some c:=fun b c h=>by
  show (if b=a then some o else W.fz b)=some c
  rw [if_neg]; exact h
  rintro rfl; have:=(I.frz _ _ h).1; rw [hn] at this; cases this
 have wl:Wle σ.nxt W (W.freeze a o):=⟨fun _ _=>rfl,hfz⟩
 have J:=I.grow hk hg ho
 refine ⟨.keeps wl (Nat.le_refl _) hk (fun _ a b=>absurd b (Nat.not_lt.mpr a)) (fun b c e=>?_),⟨J.keep,J.old,J.live,J.nofr,fun k h=>?_,J.inj,fun k o' h=>?_,fun b c h=>?_,J.frB,J.gens,J.os,fun e o h=>wl.fz _ _ (J.exc e o h),J.tab0⟩,?_⟩
 ·by_cases hb:b=a
  ·subst hb; exact .inr hn
  ·have e':(if b=a then some o else W.fz b)=some c:=e
   rw [if_neg hb] at e'; exact .inl e'
 ·show (if W.ρ k=a then some o else W.fz (W.ρ k))=none
  rw [if_neg]; exact I.nofz k h
  rintro rfl; obtain ⟨o',e'⟩:=I.live k h; rw [hn] at e'; cases e'
 ·obtain ⟨a,c,b,d⟩:=J.obj k o' h; exact ⟨a,c,b,d.mono wl (Nat.le_refl _)⟩
 ·by_cases hb:b=a
  ·subst hb
   have h':(if b=b then some o else W.fz b)=some c:=h
   rw [if_pos rfl] at h'; cases h'
   refine ⟨ha,fun hm=>?_⟩
   obtain ⟨o',e',_⟩:=(I.frB _ hm).2; rw [hn] at e'; cases e'
  ·have h':(if b=a then some o else W.fz b)=some c:=h
   rw [if_neg hb] at h'
   exact J.frz b c h'
 ·have J':=L.grow hk
  exact ⟨J'.kind,J'.glob,J'.bns,let ⟨m,a,b⟩:=J'.loc; ⟨m,a,fun x v h=>let ⟨p,c,q,r⟩:=b x v h; ⟨p,c,q,r.mono wl (Nat.le_refl _)⟩⟩,J'.cel,J'.cod⟩
theorem xI (h:Heap):h.get? h.objs.size=none:=Heap.get?_none_of_le (Nat.le_refl _)
theorem Step.freeze (I:Inv P fr W σ.toHp s) (L:Loc P env W σ s.heap) (o:Obj) (hf:o.isFreed=false) {s':Shared} (e:s'.heap=s.heap.push o) (hg:s'.gens=s.gens) (ho:s'.os=s.os) :
  Step P fr env W σ s (W.freeze s.heap.objs.size o) σ s' :=
 Step.freezeAt I L o _ (xI _) (fun _ _ x=>e ▸ Heap.get?_push_of_some _ x) (e ▸ Heap.get?_push_size _ hf) hg ho
noncomputable def Wd.add (W:Wd) (n:Nat) (a:Nat):Wd:={ W with ρ:=fun k=>if k=n then a else W.ρ k }
noncomputable def St.add (σ:St) (o:O):St:={ σ with obj:=fun k=>if k=σ.nxt then some o else σ.obj k,nxt:=σ.nxt+1 }
theorem Wd.add_le (W:Wd) (n:Nat) (a:Nat):Wle n W (W.add n a) :=
 ⟨fun k h=>by show (if k=n then a else W.ρ k)=W.ρ k; rw [if_neg (Nat.ne_of_lt h)],fun _ _ e=>e⟩
theorem Step.addAt (I:Inv P fr W σ.toHp s) (L:Loc P env W σ s.heap) (o:O) (c:Obj) (a:Nat) (hn:s.heap.get? a=none) (hr:OR (W.add σ.nxt a) (σ.nxt+1) o c) {s':Shared} (hk:∀ b o',s.heap.get? b=some o'→s'.heap.get? b=some o') (ha:s'.heap.get? a=some c) (hg:s'.gens=s.gens) (ho:s'.os=s.os) :
  Step P fr env W σ s (W.add σ.nxt a) (σ.add o) s':=by
 have wl:=W.add_le σ.nxt a
 have J:=I.grow hk hg ho
 have ρn:(W.add σ.nxt a).ρ σ.nxt=a:=by show (if σ.nxt=σ.nxt then _ else _)=_; rw [if_pos rfl]
 have hlt:∀ k,k < σ.nxt+1→k=σ.nxt∨(k < σ.nxt∧(W.add σ.nxt a).ρ k=W.ρ k):=fun k h=>by
  rcases Nat.lt_succ_iff_lt_or_eq.mp h with h | h
  ·exact .inr ⟨h,wl.ρ k h⟩
  ·exact .inl h
 refine ⟨.keeps wl (Nat.le_succ _) hk (fun k a' b=>?_) (fun _ _ e=>.inl e),⟨J.keep,fun k h=>?_,fun k h=>?_,fun k h=>?_,fun k h=>?_,fun i j hi hj h=>?_,fun k o' h=>?_,fun a c h=>J.frz a c h,J.frB,J.gens,J.os,J.exc,Nat.succ_pos _,(wl.ρ 0 J.tab0.1).trans J.tab0.2⟩,?_⟩
 ·rcases hlt k b with rfl | ⟨q,_⟩
  ·rw [ρn]; exact hn
  ·exact absurd q (Nat.not_lt.mpr a')
 ·rcases hlt k h with rfl | ⟨q,r⟩
  ·rw [ρn]
   cases hq:P.B.get? a with
   | none=>rfl
   | some o=>have:=I.keep _ _ hq; rw [hn] at this; cases this
  ·rw [r]; exact I.old k q
 ·rcases hlt k h with rfl | ⟨q,r⟩
  ·rw [ρn]; exact ⟨_,ha⟩
  ·rw [r]; exact J.live k q
 ·rcases hlt k h with rfl | ⟨q,r⟩
  ·rw [ρn]; intro hm; obtain ⟨o',e',_⟩:=(I.frB _ hm).2; rw [hn] at e'; cases e'
  ·rw [r]; exact I.nofr k q
 ·rcases hlt k h with rfl | ⟨q,r⟩
  ·rw [ρn]
   show W.fz _=none
   cases hq:W.fz a with
   | none=>rfl
   | some o=>have:=(I.frz _ _ hq).1; rw [hn] at this; cases this
  ·rw [r]; exact I.nofz k q
 ·rcases hlt i hi with rfl | ⟨q,r⟩ <;> rcases hlt j hj with rfl | ⟨q',r'⟩
  ·rfl
  ·rw [ρn,r'] at h; obtain ⟨o',e'⟩:=I.live j q'; rw [← h,hn] at e'; cases e'
  ·rw [ρn,r] at h; obtain ⟨o',e'⟩:=I.live i q; rw [h,hn] at e'; cases e'
  ·rw [r,r'] at h; exact I.inj i j q q' h
 ·have h':(if k=σ.nxt then some o else σ.obj k)=some o':=h
  by_cases hk':k=σ.nxt
  ·subst hk'
   rw [if_pos rfl] at h'; cases h'
   exact ⟨Nat.lt_succ_self _,c,by rw [ρn]; exact ha,hr⟩
  ·rw [if_neg hk'] at h'
   obtain ⟨a',c',b,d⟩:=J.obj k o' h'
   exact ⟨Nat.lt_succ_of_lt a',c',by rw [wl.ρ k a']; exact b,d.mono wl (Nat.le_succ _)⟩
 ·have J':=L.grow hk
  exact ⟨J'.kind,J'.glob,J'.bns,let ⟨m,a,b⟩:=J'.loc; ⟨m,a,fun x v h=>let ⟨p,c,q,r⟩:=b x v h; ⟨p,c,q,r.mono wl (Nat.le_succ _)⟩⟩,
   fun x k h=>let ⟨p,q⟩:=J'.cel x k h; ⟨Nat.lt_succ_of_lt p,fun hk=>by rw [wl.ρ k p]; exact q hk⟩,
   fun k q h=>let ⟨p,r⟩:=J'.cod k q h; ⟨Nat.lt_succ_of_lt p,by rw [wl.ρ k p]; exact r⟩⟩
theorem Step.add (I:Inv P fr W σ.toHp s) (L:Loc P env W σ s.heap) (o:O) (c:Obj) (hr:OR (W.add σ.nxt s.heap.objs.size) (σ.nxt+1) o c) {s':Shared} (e:s'.heap=s.heap.push c) (hg:s'.gens=s.gens) (ho:s'.os=s.os) :
  Step P fr env W σ s (W.add σ.nxt s.heap.objs.size) (σ.add o) s' :=
 Step.addAt I L o c _ (xI _) hr (fun _ _ x=>e ▸ Heap.get?_push_of_some _ x) (e ▸ Heap.get?_push_size _ hr.unfreed) hg ho
noncomputable def St.put (σ:St) (k:Nat) (o:O):St:={ σ with obj:=fun j=>if j=k then some o else σ.obj j }
theorem Step.put (I:Inv P fr W σ.toHp s) (L:Loc P env W σ s.heap) {k:Nat} (hk:k < σ.nxt) (hL:env.locals∈fr) (o:O) {c:Obj} (hr:OR W σ.nxt o c) {s':Shared} (hs:∀ b o,b≠W.ρ k→s.heap.get? b=some o→s'.heap.get? b=some o) (hc:s'.heap.get? (W.ρ k)=some c) (hg:s'.gens=s.gens) (ho:s'.os=s.os) :
  Step P fr env W σ s W (σ.put k o) s':=by
 have lv:∀ a o,s.heap.get? a=some o→∃ o',s'.heap.get? a=some o':=fun a o e=>by
  by_cases ha:a=W.ρ k
  ·subst ha; exact ⟨_,hc⟩
  ·exact ⟨o,hs a o ha e⟩
 refine ⟨⟨.refl ..,Nat.le_refl _,lv,fun _ a b=>absurd b (Nat.not_lt.mpr a),fun _ _ e=>.inl e,fun a o' e _ _ h=>hs a o' (Ne.symm (h k hk)) e,fun a o' h1 _ e=>⟨o',hs a o' (fun q=>I.nofr k hk (q ▸ h1)) e,rfl⟩⟩,⟨fun b o' e=>?_,I.old,fun j h=>let ⟨o,e⟩:=I.live j h; lv _ _ e,I.nofr,I.nofz,I.inj,fun j o' h=>?_,fun a c' h=>?_,fun a h=>⟨(I.frB a h).1,let ⟨o,e,d⟩:=(I.frB a h).2; ⟨o,hs a o (fun q=>I.nofr k hk (q ▸ h)) e,d⟩⟩,hg.trans I.gens,ho.trans I.os,I.exc,I.tab0⟩,?_⟩
 ·refine hs b o' ?_ (I.keep b o' e)
  rintro rfl; rw [I.old k hk] at e; cases e
 ·have h':(if j=k then some o else σ.obj j)=some o':=h
  by_cases hj:j=k
  ·subst hj; rw [if_pos rfl] at h'; cases h'; exact ⟨hk,c,hc,hr⟩
  ·rw [if_neg hj] at h'
   obtain ⟨a,c',b,d⟩:=I.obj j o' h'
   exact ⟨a,c',hs _ _ (fun q=>hj (I.inj j k a hk q)) b,d⟩
 ·refine ⟨hs a c' ?_ (I.frz a c' h).1,(I.frz a c' h).2⟩
  rintro rfl; rw [I.nofz k hk] at h; cases h
 ·obtain ⟨m,a,b⟩:=L.loc
  exact ⟨L.kind,L.glob,L.bns,⟨m,a.extBut (fun b o hb e=>hs b o hb e) fun q=>I.nofr k hk (q ▸ hL),b⟩,L.cel,L.cod⟩
noncomputable def wU (x:Str) (v:V) (l:List (Str×V)):List (Str×V):=(x,v)::l
theorem zA {x y:Str} {v:V} {l:List (Str×V)}:(wU x v l).lookup y=if y=x then some v else l.lookup y:=by
 unfold wU
 by_cases h:y=x
 ·subst h; simp [List.lookup]
 ·have:(y == x)=false:=by simpa using h
  simp [List.lookup,this,h]
noncomputable def St.set (σ:St) (x:Str) (v:V):St:={ σ with loc:=wU x v σ.loc }
theorem Step.set (I:Inv P fr W σ.toHp s) (L:Loc P env W σ s.heap) (hL:env.locals∈fr) {x:Str} {v:V} {c:Value} (hv:VR W σ.nxt v c) (hx:env.kindOf x=some .local) {m:Str→Option Value} (hm:s.heap.Ns env.locals m)
  {s':Shared} (hn:s'.heap.Ns env.locals (fun y=>if y=x then some c else m y)) (hs:Heap.SameBut env.locals s.heap s'.heap) (hg:s'.gens=s.gens) (ho:s'.os=s.os):Step P fr env W σ s W (σ.set x v) s':=by
 have lv:∀ a o,s.heap.get? a=some o→∃ o',s'.heap.get? a=some o':=fun a o e=>by
  by_cases ha:a=env.locals
  ·subst ha; obtain ⟨o',_,_,e',_⟩:=hn; exact ⟨o',e'⟩
  ·exact ⟨o,(hs.2 a ha).trans e⟩
 refine ⟨⟨.refl ..,Nat.le_refl _,lv,fun _ a b=>absurd b (Nat.not_lt.mpr a),fun _ _ e=>.inl e,fun a o' e h _ _=>(hs.2 a h).trans e,fun a o' _ h e=>⟨o',(hs.2 a h).trans e,rfl⟩⟩,⟨fun b o' e=>?_,I.old,fun j h=>let ⟨o,e⟩:=I.live j h; lv _ _ e,I.nofr,I.nofz,I.inj,fun j o' h=>?_,fun a c' h=>?_,fun a h=>⟨(I.frB a h).1,by
  by_cases ha:a=env.locals
  ·subst ha; obtain ⟨o',es',ep',e',d',_⟩:=hn; exact ⟨o',e',fun vs q=>by rw [d'] at q; cases q⟩
  ·obtain ⟨o,e,d⟩:=(I.frB a h).2; exact ⟨o,(hs.2 a ha).trans e,d⟩⟩,hg.trans I.gens,ho.trans I.os,I.exc,I.tab0⟩,?_⟩
 ·refine (hs.2 b ?_).trans (I.keep b o' e)
  rintro rfl; rw [(I.frB _ hL).1] at e; cases e
 ·obtain ⟨a,c',b,d⟩:=I.obj j o' h
  exact ⟨a,c',(hs.2 (W.ρ j) fun q=>I.nofr j a (by rw [q]; exact hL)).trans b,d⟩
 ·refine ⟨(hs.2 a ?_).trans (I.frz a c' h).1,(I.frz a c' h).2⟩
  rintro rfl; exact (I.frz _ _ h).2 hL
 ·obtain ⟨m',a,b⟩:=L.loc
  refine ⟨L.kind,L.glob,L.bns,⟨_,hn,fun y u h=>?_⟩,L.cel,L.cod⟩
  have h':(wU x v σ.loc).lookup y=some u:=h
  rw [zA] at h'
  by_cases hy:y=x
  ·subst hy; rw [if_pos rfl] at h'; cases h'; exact ⟨hx,c,by simp,hv⟩
  ·rw [if_neg hy] at h'
   obtain ⟨p,c',q,r⟩:=b y u h'
   refine ⟨p,c',?_,r⟩
   rw [if_neg hy]
   have hmm:m' y=m y:=by
    obtain ⟨o1,es1,e1,g1,d1,k1,f1⟩:=a
    obtain ⟨o2,es2,e2,g2,d2,k2,f2⟩:=hm
    rw [g1] at g2; cases g2; rw [d1] at d2; cases d2
    rw [← f1,← f2]
   rw [← hmm]; exact q
end
set_option genCtorIdx true in
inductive Rs (α:Type) where
 | ok (a:α) (σ:St)
 | bad
noncomputable def Rs.bind {α β:Type} (r:Rs α) (f:α→St→Rs β):Rs β:=match r with
 | .ok a σ=>f a σ
 | .bad=>.bad
noncomputable def NoE (e:Value) (s':Shared):Prop:=False
theorem NoE.elim {C:Prop} {e:Value} {s':Shared} (h:NoE e s'):C:=False.elim h
theorem NoE.after {e:Value} {s':Shared} {e':Value} {s'':Shared} {p:Prop} (a:p) (h:NoE e s'):NoE e' s'':=False.elim h
noncomputable def qOe (ob:Obj):Prop:=∃ vs,ob.data=.fields vs∧vs[2]? = some .none
noncomputable def HdOk (P:Par) (A:Around):Prop:=(P.ex=none∧A.handled=none)∨∃ e ob,P.ex=some (e,ob)∧qOe ob∧A.handled=some (.ref e)
theorem HdOk.plain {P:Par} {A:Around} (h:HdOk P A) (hc:P.ex=none):A.handled=none:=by
 rcases h with h | ⟨e,ob,q,_⟩
 ·exact h.2
 ·rw [hc] at q; cases q
structure Fm (P:Par) (lv:Nat) (fr:List Nat) (A:Around) (env:Env):Prop where
 hL:env.locals∈fr
 handled:HdOk P A
 units:A.units+20 * lv+200 < cLine
 depth:A.depth+10 * lv+100 < recursionLimit
 frames:∃ l,A.frames=some l∧∀ e∈l,e.scope.kind≠.module∧∃ L,e.frame=some L∧L∈fr
section
variable (P:Par) (fr:List Nat) (env:Env) (W:Wd) (σ:St) (s:Shared)
inductive Post (r:Rs V) (c:Value) (s':Shared):Prop where
 | mk (v:V) (σ':St) (W':Wd) (h1:r=.ok v σ') (h2:Step P fr env W σ s W' σ' s') (h3:VR W' σ'.nxt v c)
inductive PostB (r:Rs Bool) (b:Bool) (s':Shared):Prop where
 | mk (σ':St) (W':Wd) (h1:r=.ok b σ') (h2:Step P fr env W σ s W' σ' s')
inductive PostL (r:Rs (List V)) (c:List Value) (s':Shared):Prop where
 | mk (v:List V) (σ':St) (W':Wd) (h1:r=.ok v σ') (h2:Step P fr env W σ s W' σ' s') (h3:VRs W' σ'.nxt v c)
end
section
variable {P:Par} {fr:List Nat} {A:Around} {env:Env} {W W':Wd} {σ σ':St} {s s':Shared}
theorem Post.after {r:Rs V} {c:Value} {s'':Shared} (a:Step P fr env W σ s W' σ' s') (b:Post P fr env W' σ' s' r c s''):Post P fr env W σ s r c s'' :=
 let ⟨v,σ'',W'',e,st,h⟩:=b; ⟨v,σ'',W'',e,a.trans st,h⟩
theorem PostB.after {r:Rs Bool} {c:Bool} {s'':Shared} (a:Step P fr env W σ s W' σ' s') (b:PostB P fr env W' σ' s' r c s''):PostB P fr env W σ s r c s'' :=
 let ⟨σ'',W'',e,st⟩:=b; ⟨σ'',W'',e,a.trans st⟩
theorem PostL.after {r:Rs (List V)} {c:List Value} {s'':Shared} (a:Step P fr env W σ s W' σ' s') (b:PostL P fr env W' σ' s' r c s''):PostL P fr env W σ s r c s'' :=
 let ⟨v,σ'',W'',e,st,h⟩:=b; ⟨v,σ'',W'',e,a.trans st,h⟩
theorem Rs.bind_ok {α β:Type} {r:Rs α} {f:α→St→Rs β} {a:α} {σ:St} (h:r=.ok a σ):r.bind f=f a σ:=by rw [h]; rfl
theorem Rs.bind_ne {α β:Type} {r:Rs α} {f:α→St→Rs β} (h:r.bind f≠.bad):r≠.bad:=by rintro rfl; exact h rfl
noncomputable def OkE (P:Par) (fr:List Nat) (A:Around) (env:Env) (t:Sem Value) (f:St→Rs V):Prop :=
 ∀ W σ s,Inv P fr W σ.toHp s→Loc P env W σ s.heap→f σ≠.bad→wpAny P.M A t (Post P fr env W σ s (f σ)) NoE s
noncomputable def OkB (P:Par) (fr:List Nat) (A:Around) (env:Env) (t:Sem Bool) (f:St→Rs Bool):Prop :=
 ∀ W σ s,Inv P fr W σ.toHp s→Loc P env W σ s.heap→f σ≠.bad→wpAny P.M A t (PostB P fr env W σ s (f σ)) NoE s
noncomputable def OkL (P:Par) (fr:List Nat) (A:Around) (env:Env) (t:Sem (List Value)) (f:St→Rs (List V)):Prop :=
 ∀ W σ s,Inv P fr W σ.toHp s→Loc P env W σ s.heap→f σ≠.bad→wpAny P.M A t (PostL P fr env W σ s (f σ)) NoE s
theorem qTg {α:Type} {t:Sem Value} {f:St→Rs V} {g:Value→Sem α} {k:V→St→Rs α'} {Q:α→Shared→Prop} {E:Value→Shared→Prop}
  (ht:OkE P fr A env t f) (I:Inv P fr W σ.toHp s) (L:Loc P env W σ s.heap) (hb:(f σ).bind k≠.bad)
  (hE:∀ e s',NoE e s'→E e s')
  (hg:∀ v c W' σ' s',f σ=.ok v σ'→Step P fr env W σ s W' σ' s'→VR W' σ'.nxt v c→wpAny P.M A (g c) Q E s') :
  wpAny P.M A t (fun c s'=>wpAny P.M A (g c) Q E s') E s :=
 wpAny_mono (ht W σ s I L (Rs.bind_ne hb)) (fun c s' ⟨v,σ',W',e,st,hv⟩=>hg v c W' σ' s' e st hv) (fun e s' h=>hE e s' h.elim)
end
set_option genCtorIdx true in
inductive Ov where
 | ok (v:V)
 | bad
noncomputable def Ov.st (r:Ov) (σ:St):Rs V:=match r with
 | .ok v=>.ok v σ
 | .bad=>.bad
noncomputable def asO:Option O→Option (List V)
 | some (.list xs)=>some xs
 | _=>Option.none
theorem qOa {o:Option O} {xs:List V} (h:asO o=some xs):o=some (.list xs):=by
 cases o with
 | none=>cases h
 | some o=>cases o with
  | list ys=>cases h; rfl
  | _=>cases h
noncomputable def qM (H:Hp):V→Option (List V)
 | .list xs=>some xs
 | .ref k=>asO (H.obj k)
 | _=>Option.none
noncomputable def zT (H:Hp):V→Option Bool
 | .none=>some false
 | .bool b=>some b
 | .int i=>some (i != 0)
 | .mt _ _=>some true
 | v=>(qM H v).map fun xs=>!xs.isEmpty
noncomputable def zO:V→Option Str
 | .str x=>some x
 | _=>Option.none
noncomputable def zW:V→Option Int
 | .int x=>some x
 | _=>Option.none
theorem qQ {v:V} {x:Str} (h:zO v=some x):v=.str x:=by
 cases v <;> first | (cases h; rfl) | cases h
theorem qS {v:V} {x:Int} (h:zW v=some x):v=.int x:=by
 cases v <;> first | (cases h; rfl) | cases h
theorem xE {α β:Type} {o:Option α} {f:α→β} {b:β} (h:o.elim b f≠b):∃ a,o=some a:=by
 cases o with
 | none=>exact absurd rfl h
 | some a=>exact ⟨a,rfl⟩
noncomputable def zEm (f:Int→Int→Ov) (a b:V):Ov:=match a with
 | .int x=>(match b with | .int y=>f x y | _=>.bad)
 | _=>.bad
noncomputable def qYx (H:Hp) (a b:V):Ov:=match a with
 | .int x=>(match b with | .int y=>.ok (.int (x+y)) | _=>.bad)
 | .str x=>(match b with | .str y=>if x.length+y.length≤sizeLine then .ok (.str (x++y)) else .bad | _=>.bad)
 | .list xs=>(match b with | .list ys=>if xs.length+ys.length≤sizeLine then .ok (.list (xs++ys)) else .bad | _=>.bad)
 | _=>.bad
noncomputable def zEb (x:Str) (b:V):Ov:=(zW b).elim .bad fun i=>if i=3∧x.length=1 then .ok (.str (x++x++x)) else .bad
noncomputable def qVq (a b:V):Ov:=(zW a).elim .bad fun x=>(zW b).elim .bad fun y=>if Builtin.Int.intBits x≤64 then .ok (.int (x * y)) else .bad
noncomputable def zDz (a b:V):Ov:=match zO a with
 | some x=>zEb x b
 | Option.none=>qVq a b
noncomputable def qSd (H:Hp) (op:Operator) (a b:V):Ov:=match op with
 | .Add=>qYx H a b
 | .Sub=>zEm (fun x y=>.ok (.int (x - y))) a b
 | .Mult=>zDz a b
 | .FloorDiv=>zEm (fun x y=>if 0 < y∧y < 1000 then .ok (.int (x.fdiv y)) else .bad) a b
 | .Mod=>zEm (fun x y=>if y=0 then .bad else .ok (.int (x.fmod y))) a b
 | _=>.bad
noncomputable def dat (H:Hp):Nat→V→Option PyData
 | 0,_=>Option.none
 | _+1,.none=>some .none
 | _+1,.bool b=>some (.bool b)
 | _+1,.int i=>some (.int i)
 | _+1,.str s=>some (.str s)
 | n+1,.list xs=>(xs.mapM (dat H n)).map .list
 | n+1,.tup xs=>(xs.mapM (dat H n)).map .tuple
 | n+1,.ref k=>(asO (H.obj k)).bind fun xs=>(xs.mapM (dat H n)).map .list
 | _,_=>Option.none
noncomputable def eqB (H:Hp) (a b:V):Option Bool:=(dat H 8 a).bind fun x=>(dat H 8 b).map fun y=>PyData.eqv x y
noncomputable def zBk (f:Int→Int→Bool) (a b:V):Option Bool:=match a with
 | .int x=>(match b with | .int y=>some (f x y) | _=>Option.none)
 | _=>Option.none
noncomputable def inL (H:Hp) (a b:V):Option Bool:=(dat H 8 a).bind fun x=>(qM H b).bind fun ys=>(ys.mapM (dat H 7)).map fun l=>l.any fun y=>PyData.eqv y x
noncomputable def inB (H:Hp) (a b:V):Option Bool:=(zO b).elim (inL H a b) fun x=>(zO a).map fun y=>Txt.contains x y
noncomputable def qFe:V→Option Bool
 | .none=>some true
 | .int _=>some false
 | .list _=>some false
 | _=>Option.none
noncomputable def isB (a b:V):Option Bool:=match b with
 | .none=>qFe a
 | _=>Option.none
noncomputable def zMl (H:Hp) (op:CmpOp) (a b:V):Option Bool:=match op with
 | .Eq=>eqB H a b
 | .NotEq=>(eqB H a b).map (!·)
 | .Lt=>zBk (fun x y=>decide (x < y)) a b
 | .Gt=>zBk (fun x y=>decide (x > y)) a b
 | .GtE=>zBk (fun x y=>decide (x ≥ y)) a b
 | .In=>inB H a b
 | .Is=>isB a b
 | _=>Option.none
noncomputable def qIr:Option Bool→Ov
 | some b=>.ok (.bool b)
 | Option.none=>.bad
noncomputable def wE (H:Hp) (op:CmpOp) (a b:V):Ov:=qIr (zMl H op a b)
noncomputable def zDx:V→Ov
 | .int a=>.ok (.int (-a))
 | _=>.bad
noncomputable def xO (i:Int):Bool:=decide (-(2 ^ 63:Int)≤i) && decide (i < 2 ^ 63)
noncomputable def qNz (H:Hp):V→Option (List V)
 | .tup xs=>some xs
 | v=>qM H v
noncomputable def jK (H:Hp) (a i:V):Ov:=(zW i).elim .bad fun k=>if xO k=true then (match zO a with
  | some x=>((seqIndex? k x.length).bind (x.cps[·]?)).elim .bad fun c=>.ok (.str ⟨#[c]⟩)
  | Option.none=>(qNz H a).elim .bad fun xs=>((seqIndex? k xs.length).bind (xs[·]?)).elim .bad .ok) else .bad
noncomputable def wF:V→Option (Option Int)
 | .none=>some Option.none
 | .int i=>some (some i)
 | _=>Option.none
noncomputable def cut {α:Type} (xs:List α) (lo hi:Option Int):List α :=
 (xs.drop (lo.elim 0 (clipAt xs.length))).take (hi.elim xs.length (clipAt xs.length) - lo.elim 0 (clipAt xs.length))
noncomputable def yA (H:Hp) (a lo hi:V):Ov:=(wF lo).elim .bad fun l=>(wF hi).elim .bad fun h=>match zO a with
 | some x=>.ok (.str ⟨(cut x.cps.toList l h).toArray⟩)
 | Option.none=>(qM H a).elim .bad fun xs=>.ok (.list (cut xs l h))
noncomputable def xL (H:Hp):V→Option (List V)
 | .tup xs=>some xs
 | .rng a b c=>some ((List.range (Builtin.Range.rangeSize a b c).toNat).map fun (i:Nat)=>.int (a+(i:Int) * c))
 | v=>qM H v
structure Cx where
 lvl:Nat:=0
 calm:Bool:=false
 gl:Str→Option V
 app:V→List V→Hp→Rs V
 get:V→Str→Hp→Option (V×List V)
 fld:V→Str→Hp→Ov
noncomputable def Rs.lift {α:Type} (r:Rs α) (σ:St):Rs α:=match r with
 | .ok a σ'=>.ok a { σ with toHp:=σ'.toHp }
 | .bad=>.bad
noncomputable def qAc (b:V) (σ:St) (t:St→Rs V):Rs (Option V):=match zT σ.toHp b with
 | some true=>(t σ).bind fun r σ₁=>.ok (some r) σ₁
 | some false=>.ok Option.none σ
 | Option.none=>.bad
open Classical in
noncomputable def turns (v:V) (all:List V) (f:V→St→Rs (Option V)):List V→St→Rs (List V)
 | [],σ=>if xL σ.toHp v=some all then .ok [] σ else .bad
 | x::r,σ=>if xL σ.toHp v=some all then (match f x σ with
  | .ok o σ₁=>(turns v all f r σ₁).bind fun vs σ₂=>.ok (o.toList++vs) σ₂
  | _=>.bad) else .bad
noncomputable def kM {α:Type} (v:V) (σ:St) (k:List V→St→Rs α):Rs α:=match v with
 | .list xs=>k xs σ
 | _=>.bad
noncomputable def fits (n:Nat) (r:Rs V):Rs V:=if n≤sizeLine then r else .bad
noncomputable def condR (v:V) (σ:St) (t e:St→Rs V):Rs V:=match zT σ.toHp v with
 | some true=>t σ
 | some false=>e σ
 | Option.none=>.bad
noncomputable def qQu (σ:St) (v:V):Rs V:=match σ.tbl with
 | some (k,q)=>(match σ.obj k with
  | some (.tab q')=>if q'=q then .ok v σ else .bad
  | _=>.bad)
 | Option.none=>.bad
variable (cx:Cx) in
noncomputable def ev:X→St→Rs V
 | .none,σ=>.ok .none σ
 | .bool b,σ=>.ok (.bool b) σ
 | .int i,σ=>.ok (.int i) σ
 | .str s,σ=>.ok (.str s) σ
 | .var x,σ=>match σ.loc.lookup x with | some v=>.ok v σ | Option.none=>.bad
 | .cv x,σ=>match σ.cel.lookup x with
  | some k=>(match σ.obj k with | some (.cell (some v))=>.ok v σ | _=>.bad)
  | Option.none=>.bad
 | .glob x,σ=>match cx.gl x with | some v=>.ok v σ | Option.none=>.bad
 | .bin op a b,σ=>(ev a σ).bind fun va σ₁=>(ev b σ₁).bind fun vb σ₂=>(qSd σ₂.toHp op va vb).st σ₂
 | .neg a,σ=>(ev a σ).bind fun va σ₁=>(zDx va).st σ₁
 | .not a,σ=>(ev a σ).bind fun va σ₁=>match zT σ₁.toHp va with | some b=>.ok (.bool !b) σ₁ | Option.none=>.bad
 | .cmp op a b,σ=>(ev a σ).bind fun va σ₁=>(ev b σ₁).bind fun vb σ₂=>(wE σ₂.toHp op va vb).st σ₂
 | .and a b,σ=>(ev a σ).bind fun va σ₁=>condR va σ₁ (ev b) (fun σ₁=>.ok va σ₁)
 | .or a b,σ=>(ev a σ).bind fun va σ₁=>condR va σ₁ (fun σ₁=>.ok va σ₁) (ev b)
 | .ite c a b,σ=>(ev c σ).bind fun vc σ₁=>condR vc σ₁ (ev a) (ev b)
 | .idx a i,σ=>(ev a σ).bind fun va σ₁=>(ev i σ₁).bind fun vi σ₂=>(jK σ₂.toHp va vi).st σ₂
 | .slc a lo hi,σ=>(ev a σ).bind fun va σ₁=>(ev lo σ₁).bind fun vl σ₂=>(ev hi σ₂).bind fun vh σ₃=>(yA σ₃.toHp va vl vh).st σ₃
 | .attr o f,σ=>(ev o σ).bind fun vo σ₁=>(cx.fld vo f σ₁.toHp).st σ₁
 | .list es,σ=>(ev es σ).bind fun vs σ₁=>kM vs σ₁ fun xs σ₁=>fits xs.length (.ok (.list xs) σ₁)
 | .tup es,σ=>(ev es σ).bind fun vs σ₁=>kM vs σ₁ fun xs σ₁=>fits xs.length (.ok (.tup xs) σ₁)
 | .nil,σ=>.ok (.list []) σ
 | .cons a b,σ=>(ev a σ).bind fun va σ₁=>(ev b σ₁).bind fun vs σ₂=>kM vs σ₂ fun xs σ₂=>.ok (.list (va::xs)) σ₂
 | .call f as,σ=>(ev f σ).bind fun vf σ₁=>(ev as σ₁).bind fun vs σ₂=>kM vs σ₂ fun xs σ₂=>(cx.app vf xs σ₂.toHp).lift σ₂
 | .meth o m as,σ=>(ev o σ).bind fun vo σ₁=>match cx.get vo m σ₁.toHp with
  | some (vf,first)=>(ev as σ₁).bind fun vs σ₂=>kM vs σ₂ fun xs σ₂=>(cx.app vf (first++xs) σ₂.toHp).lift σ₂
  | Option.none=>.bad
 | .comp elt x it cond,σ=>if cx.calm=true then .bad else (ev it σ).bind fun vi σ₁=>match xL σ₁.toHp vi with
  | some xs=>(turns vi xs (fun v σ₂=>(ev cond { σ₂ with loc:=[(x,v)],cel:=σ₁.cel,tbl:=Option.none }).bind fun b σ₃=>qAc b σ₃ (ev elt)) xs σ₁).bind fun vs σ₂=>fits vs.length (.ok (.list vs) { σ₁ with toHp:=σ₂.toHp })
  | Option.none=>.bad
 | .lam ps b,σ=>qQu σ (.clo ps b σ.cel)
 | .named x e,σ=>(ev e σ).bind fun v σ₁=>.ok v (σ₁.set x v)
section
variable {P:Par} {fr:List Nat} {A:Around} {env:Env} {W:Wd} {σ:St} {s:Shared}
theorem vL:(sizeLine:Int) < 2 ^ 63:=by unfold sizeLine; decide
theorem qN {r:Rs V} {v:V} {c:Value} {W':Wd} {σ':St} {s':Shared} (e:r=.ok v σ') (st:Step P fr env W σ s W' σ' s') (h:VR W' σ'.nxt v c):Post P fr env W σ s r c s':=⟨v,σ',W',e,st,h⟩
theorem zV (I:Inv P fr W σ.toHp s) {v:V} {c:Value} {xs:List V} (hv:VR W σ.nxt v c) (e:qM σ.toHp v=some xs) :
  ∃ a items,c=.ref a∧s.heap.IsList a items∧VRs W σ.nxt xs items.toList∧items.size≤sizeLine:=by
 cases hv with
 | list a b d z r _=>cases e; exact ⟨_,_,rfl,⟨_,(I.frz _ _ a).1,b,_,d⟩,r,z⟩
 | ref h =>
  obtain ⟨_,ob,hg,hr⟩:=I.obj _ _ (qOa e)
  cases hr with
  | list r z=>exact ⟨_,_,rfl,⟨_,hg,rfl,_,rfl⟩,r,z⟩
 | _=>cases e
theorem yT:typeLookup (.type "re.Match") "__bool__" = pure none:=by rw [typeLookup_type,builtinLookup_eq_fast]; kernel_rfl
theorem uM:typeLookup (.type "re.Match") "__len__" = pure none:=by rw [typeLookup_type,builtinLookup_eq_fast]; kernel_rfl
theorem qEq {M:Model} {E:Value→Shared→Prop} {a:Nat} {Q:Bool→Shared→Prop} (hT:s.TypeIs (.ref a) "re.Match") (h:Q true s):wpAny M A (truthy (.ref a)) Q E s:=by
 unfold truthy
 refine wpAny_bind (wpAny_callSpecial?_none hT yT ?_)
 refine wpAny_bind (wpAny_specialOf hT uM ?_)
 exact wpAny_pure h
theorem truthy_ok {E:Value→Shared→Prop} (I:Inv P fr W σ.toHp s) {v:V} {c:Value} {b:Bool} {Q:Bool→Shared→Prop} (hv:VR W σ.nxt v c) (e:zT σ.toHp v=some b)
  (h:∀ t,Q b { s with toks:=t }):wpAny P.M A (truthy c) Q E s:=by
 have key:∀ xs,qM σ.toHp v=some xs→b=(!xs.isEmpty)→wpAny P.M A (truthy c) Q E s:=fun xs hx hb=>by
  obtain ⟨a,items,rfl,hl,hr,hz⟩:=zV I hv hx
  refine wpAny_truthy_list hl (Int.lt_of_le_of_lt (Int.ofNat_le.mpr hz) vL) ?_
  have e2:items.isEmpty=xs.isEmpty:=by
   rw [← Array.isEmpty_toList]
   revert hr
   generalize items.toList=l
   intro hr
   cases hr <;> rfl
  rw [e2,← hb]; exact h _
 have list:(qM σ.toHp v).map (fun xs=>!xs.isEmpty)=some b→wpAny P.M A (truthy c) Q E s:=fun q =>
  let ⟨xs,h1,h2⟩:=Option.map_eq_some_iff.mp q
  key xs h1 h2.symm
 cases hv with
 | none=>cases e; exact truthy_none (h s.toks)
 | bool b=>cases e; exact wpAny_truthy_bool (h s.toks)
 | int i t=>cases e; exact PySem.P.truthy_int (h s.toks)
 | mt a b c d e' f g _=>cases e; exact qEq ⟨_,(I.frz _ _ a).1,b⟩ (h s.toks)
 | list=>exact list e
 | ref=>exact list e
 | _=>cases e
theorem jA {x y:Str} (hx:PyData.strOk x=true) (hy:PyData.strOk y=true):PyData.strOk (x++y)=true:=by
 show (x.cps++y.cps).all _=true
 rw [Array.all_append,Bool.and_eq_true]; exact ⟨hx,hy⟩
theorem jF (I:Inv P fr W σ.toHp s) (L:Loc P env W σ s.heap) {xs:List V} {items:Array Value} (hr:VRs W σ.nxt xs items.toList) (hz:items.size≤sizeLine) {s':Shared} (e:s'.heap=s.heap.push { cls:=.type "list", data:=.seq items }) (hg:s'.gens=s.gens) (ho:s'.os=s.os) :
  Post P fr env W σ s (.ok (.list xs) σ) (.ref s.heap.objs.size) s':=by
 have st:=Step.freeze I L { cls:=.type "list", data:=.seq items } rfl e hg ho
 refine ⟨_,σ,_,rfl,st,.list (o:={ cls:=.type "list", data:=.seq items }) (items:=items) (e:=0) ?_ rfl rfl hz (hr.mono st.nx.wle (Nat.le_refl _)) rfl⟩
 show (if s.heap.objs.size=s.heap.objs.size then _ else _)=_
 rw [if_pos rfl]
theorem qDs (I:Inv P fr W σ.toHp s) (L:Loc P env W σ s.heap) {xs:List V} {items:Array Value} (hr:VRs W σ.nxt xs items.toList) (hz:items.size≤sizeLine) {s':Shared} (e:s'.heap=s.heap.push { cls:=.type "tuple", data:=.seq items }) (hg:s'.gens=s.gens) (ho:s'.os=s.os) :
  Post P fr env W σ s (.ok (.tup xs) σ) (.ref s.heap.objs.size) s':=by
 have st:=Step.freeze I L { cls:=.type "tuple", data:=.seq items } rfl e hg ho
 refine ⟨_,σ,_,rfl,st,.tup (o:={ cls:=.type "tuple", data:=.seq items }) (items:=items) (e:=0) ?_ rfl rfl hz (hr.mono st.nx.wle (Nat.le_refl _))⟩
 show (if s.heap.objs.size=s.heap.objs.size then _ else _)=_
 rw [if_pos rfl]
theorem qOr {x y:Str} (h:(x.length == 0)=true):x++y=y:=by
 have h0:x.cps.size=0:=by simpa [Str.length] using h
 have:x.cps = #[]:=Array.eq_empty_of_size_eq_zero h0
 show Str.mk (x.cps++y.cps)=y
 rw [this]; simp
theorem qOq {x y:Str} (h:(y.length == 0)=true):x++y=x:=by
 have h0:y.cps.size=0:=by simpa [Str.length] using h
 have:y.cps = #[]:=Array.eq_empty_of_size_eq_zero h0
 show Str.mk (x.cps++y.cps)=x
 rw [this]; simp
theorem qBw {f:Int→Int→Ov} {a b:V} (h:(zEm f a b).st σ≠.bad):∃ x y,a=.int x∧b=.int y:=by
 cases a with
 | int x=>cases b with
  | int y=>exact ⟨_,_,rfl,rfl⟩
  | _=>exact absurd rfl h
 | _=>exact absurd rfl h
theorem zGh (I:Inv P fr W σ.toHp s) (L:Loc P env W σ s.heap) {a b:V} {ca cb:Value} (ha:VR W σ.nxt a ca) (hb:VR W σ.nxt b cb) (hne:(qYx σ.toHp a b).st σ≠.bad) :
  wpAny P.M A (binaryOp .Add ca cb) (Post P fr env W σ s ((qYx σ.toHp a b).st σ)) NoE s:=by
 have ha':=ha
 have hb':=hb
 cases ha with
 | int i t=>cases hb with
  | int j u=>exact PySem.P.add_int (qN rfl (Step.toks I L _) (.int ..))
  | _=>exact absurd rfl hne
 | str x t hx hx'=>cases hb with
  | str y u hy hy' =>
   have e:qYx σ.toHp (.str x) (.str y)=if x.length+y.length≤sizeLine then .ok (.str (x++y)) else .bad:=rfl
   rw [e] at hne ⊢
   by_cases hsz:x.length+y.length≤sizeLine
   ·rw [if_pos hsz]
    refine PySem.P.add_str ?_
    split
    ·rename_i h; exact qN rfl (Step.refl I L) (by rw [qOr h]; exact .str _ _ hy hy')
    ·split
     ·rename_i h; exact qN rfl (Step.refl I L) (by rw [qOq h]; exact .str _ _ hx hx')
     ·have hl:(x++y).length≤sizeLine:=by show (x.cps++y.cps).size≤_; rw [Array.size_append]; exact hsz
      exact ⟨hl,qN rfl (Step.toks I L _) (.str _ _ hl (jA hx' hy'))⟩
   ·rw [if_neg hsz] at hne; exact absurd rfl hne
  | _=>exact absurd rfl hne
 | @list _ _ _ _ xs _ _ _ _ _=>cases hb with
  | @list _ _ _ _ ys _ _ _ _ _ =>
   have e:qYx σ.toHp (.list xs) (.list ys)=if xs.length+ys.length≤sizeLine then .ok (.list (xs++ys)) else .bad:=rfl
   rw [e] at hne ⊢
   by_cases hsz:xs.length+ys.length≤sizeLine
   ·rw [if_pos hsz]
    obtain ⟨l,items,hl0,hl,hr,hz⟩:=zV I ha' (xs:=xs) rfl
    obtain ⟨b,items2,hl1,hl2,hr2,hz2⟩:=zV I hb' (xs:=ys) rfl
    rw [hl0,hl1]
    obtain ⟨⟨cls,dd,data,sl⟩,ho,hc,n,hd⟩:=id hl
    obtain ⟨⟨cls2,dd2,data2,sl2⟩,ho2,hc2,n2,hd2⟩:=id hl2
    simp only at hc hd hc2 hd2
    subst hc hd hc2 hd2
    have h1:=hr.length
    have h2:=hr2.length
    rw [Array.length_toList] at h1 h2
    have hs:items.size+items2.size≤sizeLine:=by rw [h1,h2]; exact hsz
    refine concat_meets ⟨_,ho,rfl⟩ ⟨_,ho2,rfl⟩ noFill_list_add seq_list_add PySem.F.slot_list_add PySem.F.entry_list_add (PySem.F.args_list_add_2 _ _) (list_addW l b items items2 n n2 dd dd2 sl sl2 hs) ⟨ho,ho2,?_⟩
    exact jF (items:=items++items2) I L (by rw [Array.toList_append]; exact hr.append hr2) (by rw [Array.size_append]; exact hs) rfl rfl rfl
   ·rw [if_neg hsz] at hne; exact absurd rfl hne
  | _=>exact absurd rfl hne
 | _=>exact absurd rfl hne
theorem zEa (I:Inv P fr W σ.toHp s) (L:Loc P env W σ s.heap) {x:Str} {b:V} {ca cb:Value} (ha:VR W σ.nxt (.str x) ca) (hb:VR W σ.nxt b cb) (hne:(zEb x b).st σ≠.bad) :
  wpAny P.M A (binaryOp .Mult ca cb) (Post P fr env W σ s ((zEb x b).st σ)) NoE s:=by
 revert hne
 unfold zEb
 intro hne
 obtain ⟨i,hi⟩:=xE (α:=Int) (fun q=>hne (by rw [q]; rfl))
 obtain rfl:=qS hi
 revert hne
 show Ov.st (if i=3∧x.length=1 then _ else _) σ≠_→wpAny _ _ _ (Post P fr env W σ s (Ov.st (if i=3∧x.length=1 then _ else _) σ)) NoE _
 intro hne
 split at hne
 ·rename_i h
  rw [if_pos h]
  obtain ⟨rfl,h1⟩:=h
  obtain ⟨t,rfl,hz,hok⟩:=ha.inv_str
  obtain ⟨u,rfl⟩:=hb.inv_int
  have e:Txt.mul x 3=x++x++x:=by
   unfold Txt.mul
   rw [if_neg (by decide),if_neg (by rw [h1]; decide)]
   show (⟨#[]++x.cps++x.cps++x.cps⟩:Str)=⟨x.cps++x.cps++x.cps⟩
   rw [Array.empty_append]
  have hl:(x++x++x).length=3:=by
   show (x.cps++x.cps++x.cps).size=3
   have:x.cps.size=1:=h1
   rw [Array.size_append,Array.size_append,this]
  refine SB.mul ⟨by decide,fun _ _=>by rw [h1]; decide,fun _ _=>by rw [h1]; decide⟩ fun t' k=>?_
  rw [e]
  exact qN rfl (Step.toks I L _) (.str _ _ (by rw [hl]; decide) (jA (jA hok hok) hok))
 ·exact absurd rfl hne
theorem zEc (I:Inv P fr W σ.toHp s) (L:Loc P env W σ s.heap) {a b:V} {ca cb:Value} (ha:VR W σ.nxt a ca) (hb:VR W σ.nxt b cb) (hne:(qVq a b).st σ≠.bad) :
  wpAny P.M A (binaryOp .Mult ca cb) (Post P fr env W σ s ((qVq a b).st σ)) NoE s:=by
 have hne':qVq a b≠.bad:=fun q=>hne (by rw [q]; rfl)
 obtain ⟨x,h1⟩:=xE hne'
 obtain rfl:=qS h1
 obtain ⟨y,h2⟩:=xE (show (zW b).elim Ov.bad _≠.bad from hne')
 obtain rfl:=qS h2
 have e:qVq (.int x) (.int y)=if Builtin.Int.intBits x≤64 then .ok (.int (x * y)) else .bad:=rfl
 rw [e] at hne ⊢
 split at hne
 ·rename_i hb'
  rw [if_pos hb']
  obtain ⟨_,rfl⟩:=ha.inv_int; obtain ⟨_,rfl⟩:=hb.inv_int
  exact PySem.P.mul_int (qN rfl (Step.toks I L _) (.int ..)) (.of_left hb')
 ·exact absurd rfl hne
theorem zDy (I:Inv P fr W σ.toHp s) (L:Loc P env W σ s.heap) {a b:V} {ca cb:Value} (ha:VR W σ.nxt a ca) (hb:VR W σ.nxt b cb) (hne:(zDz a b).st σ≠.bad) :
  wpAny P.M A (binaryOp .Mult ca cb) (Post P fr env W σ s ((zDz a b).st σ)) NoE s:=by
 revert hne
 unfold zDz
 split
 ·rename_i x hx
  obtain rfl:=qQ hx
  exact zEa I L ha hb
 ·exact zEc I L ha hb
theorem zFt (I:Inv P fr W σ.toHp s) (L:Loc P env W σ s.heap) {op:Operator} {a b:V} {ca cb:Value} (ha:VR W σ.nxt a ca) (hb:VR W σ.nxt b cb) (hne:(qSd σ.toHp op a b).st σ≠.bad) :
  wpAny P.M A (binaryOp op ca cb) (Post P fr env W σ s ((qSd σ.toHp op a b).st σ)) NoE s:=by
 cases op with
 | Add=>exact zGh I L ha hb hne
 | Sub =>
  obtain ⟨x,y,rfl,rfl⟩:=qBw hne
  obtain ⟨_,rfl⟩:=ha.inv_int; obtain ⟨_,rfl⟩:=hb.inv_int
  exact PySem.P.sub_int (qN rfl (Step.toks I L _) (.int ..))
 | Mult=>exact zDy I L ha hb hne
 | FloorDiv =>
  obtain ⟨x,y,rfl,rfl⟩:=qBw hne
  revert hne
  show (if 0 < y∧y < 1000 then _ else Ov.bad).st σ≠.bad→wpAny _ _ _ (Post P fr env W σ s ((if 0 < y∧y < 1000 then _ else Ov.bad).st σ)) NoE _
  obtain ⟨_,rfl⟩:=ha.inv_int; obtain ⟨_,rfl⟩:=hb.inv_int
  intro hne
  split at hne
  ·rename_i h0
   rw [if_pos h0]
   exact floordiv_int (by lia) (qN rfl (Step.toks I L _) (.int ..)) (hp:=.inl (PyProof.noPylong_small (by lia)))
  ·exact absurd rfl hne
 | Mod =>
  obtain ⟨x,y,rfl,rfl⟩:=qBw hne
  revert hne
  show (if y=0 then Ov.bad else _).st σ≠.bad→wpAny _ _ _ (Post P fr env W σ s ((if y=0 then Ov.bad else _).st σ)) NoE _
  obtain ⟨_,rfl⟩:=ha.inv_int; obtain ⟨_,rfl⟩:=hb.inv_int
  intro hne
  split at hne
  ·exact absurd rfl hne
  ·rename_i h0; rw [if_neg h0]; exact mod_int' h0 (qN rfl (Step.toks I L _) (.int ..))
 | _=>exact absurd rfl hne
inductive All2 {α β:Type} (R:α→β→Prop):List α→List β→Prop
 | nil:All2 R [] []
 | cons {a b l m}:R a b→All2 R l m→All2 R (a::l) (b::m)
theorem vX {α β:Type} {f:α→Option β}:∀ {l:List α} {r:List β},l.mapM f=some r→All2 (fun a b=>f a=some b) l r
 | [],r,h=>by simp at h; subst h; exact .nil
 | a::l,r,h=>by
  rw [List.mapM_cons] at h
  obtain ⟨b,hb,h⟩:=Option.bind_eq_some_iff.mp h
  obtain ⟨bs,hbs,h⟩:=Option.bind_eq_some_iff.mp h
  cases h
  exact .cons hb (vX hbs)
theorem wO {h:Heap} {W:Wd} {n m:Nat} {f:V→Option PyData} (hf:∀ v c d,VR W n v c→f v=some d→∃ as,Reads h c d as∧d.canLay0=true∧d.depth≤m)
  {xs:List V} {cs:List Value} {ds:List PyData} (hv:VRs W n xs cs):All2 (fun a b=>f a=some b) xs ds→∃ as,ReadsAll h cs ds as∧PyData.canLayAll0 ds=true∧PyData.depthAll ds≤m:=by
 refine hv.ind (C:=fun xs cs=>∀ ds,All2 (fun a b=>f a=some b) xs ds→∃ as,ReadsAll h cs ds as∧PyData.canLayAll0 ds=true∧PyData.depthAll ds≤m) ?_ ?_ ds
 ·intro ds q
  cases q
  exact ⟨[],.nil,rfl,Nat.zero_le _⟩
 ·intro x c xs cs a b ih ds q
  cases q with
  | cons e r =>
   obtain ⟨as,h1,h2,h3⟩:=hf _ _ _ a e
   obtain ⟨bs,g1,g2,g3⟩:=ih _ r
   refine ⟨_,.cons h1 g1,?_,Nat.max_le.mpr ⟨h3,g3⟩⟩
   show (_ && _)=true
   rw [h2,g2]; rfl
theorem wT (I:Inv P fr W σ.toHp s):∀ (m:Nat) (v:V) (c:Value) (d:PyData),VR W σ.nxt v c→dat σ.toHp m v=some d→∃ as,Reads s.heap c d as∧d.canLay0=true∧d.depth≤m:=by
 intro m
 induction m with
 | zero=>intro v c d hv e; cases e
 | succ m ih =>
  intro v c d hv e
  cases hv with
  | none=>cases e; exact ⟨_,.none,rfl,Nat.zero_le _⟩
  | bool b=>cases e; exact ⟨_,.bool b,rfl,Nat.zero_le _⟩
  | int i t=>cases e; exact ⟨_,.int i t,rfl,Nat.zero_le _⟩
  | str x t _ o=>cases e; exact ⟨_,.str x t,o,Nat.zero_le _⟩
  | list a b d' z r _ =>
   obtain ⟨ds,h1,rfl⟩:=Option.map_eq_some_iff.mp (show Option.map _ (List.mapM _ _)=some d from e)
   obtain ⟨as,g1,g2,g3⟩:=wO ih r (vX h1)
   exact ⟨_,.list (I.frz _ _ a).1 b d' g1,g2,Nat.succ_le_succ g3⟩
  | tup a b d' z r =>
   obtain ⟨ds,h1,rfl⟩:=Option.map_eq_some_iff.mp (show Option.map _ (List.mapM _ _)=some d from e)
   obtain ⟨as,g1,g2,g3⟩:=wO ih r (vX h1)
   exact ⟨_,.tuple (I.frz _ _ a).1 b d' g1,g2,Nat.succ_le_succ g3⟩
  | ref hk =>
   obtain ⟨ys,ho,e⟩:=Option.bind_eq_some_iff.mp (show Option.bind (asO _) _=some d from e)
   obtain ⟨ds,h1,rfl⟩:=Option.map_eq_some_iff.mp e
   obtain ⟨_,ob,hg,hr⟩:=I.obj _ _ (qOa ho)
   cases hr with
   | list r z =>
    obtain ⟨as,g1,g2,g3⟩:=wO ih r (vX h1)
    exact ⟨_,.list hg rfl rfl g1,g2,Nat.succ_le_succ g3⟩
  | _=>cases e
theorem qSc {o:Option Bool} (h:(qIr o).st σ≠.bad):∃ b,o=some b:=by
 cases o with
 | none=>exact absurd rfl h
 | some b=>exact ⟨b,rfl⟩
theorem zDv {o:Option Bool} {b:Bool} (h:o.map (!·)=some b):o=some !b:=by
 cases o with
 | none=>cases h
 | some c=>cases h; simp
theorem qNr {H:Hp} {a b:V} {r:Bool} (h:eqB H a b=some r):∃ x y,dat H 8 a=some x∧dat H 8 b=some y∧r=PyData.eqv x y:=by
 obtain ⟨x,h1,h2⟩:=Option.bind_eq_some_iff.mp h
 obtain ⟨y,h3,rfl⟩:=Option.map_eq_some_iff.mp h2
 exact ⟨x,y,h1,h3,rfl⟩
theorem qBr {f:Int→Int→Bool} {a b:V} {r:Bool} (h:zBk f a b=some r):∃ x y,a=.int x∧b=.int y∧r=f x y:=by
 cases a with
 | int x=>cases b with
  | int y=>cases h; exact ⟨_,_,rfl,rfl,rfl⟩
  | _=>cases h
 | _=>cases h
theorem zEl {a b:V} {r:Bool} (h:isB a b=some r):b=.none∧qFe a=some r:=by
 cases b with
 | none=>exact ⟨rfl,h⟩
 | _=>cases h
theorem qQx {W:Wd} {n:Nat} {a:V} {ca:Value} {r:Bool} (ha:VR W n a ca) (h:qFe a=some r):plainIs ca .none=true∧(ca == .none)=r:=by
 cases ha <;> first | (cases h; exact ⟨rfl,rfl⟩) | (cases h; done)
theorem zFq {lv:Nat} (F:Fm P lv fr A env) (I:Inv P fr W σ.toHp s) (L:Loc P env W σ s.heap) {op:CmpOp} {a b:V} {ca cb:Value} (ha:VR W σ.nxt a ca) (hb:VR W σ.nxt b cb) {r:Bool} (hr:zMl σ.toHp op a b=some r)
  {Q:Value→Shared→Prop} {E:Value→Shared→Prop} (hQ:Q (.bool r) s):wpAny P.M A (compareOp op ca cb) Q E s:=by
 have U:=F.units
 have two:∀ {x y:PyData},dat σ.toHp 8 a=some x→dat σ.toHp 8 b=some y→∃ as bs,Reads s.heap ca x as∧Reads s.heap cb y bs∧x.canLay0=true∧y.canLay0=true∧A.units+min x.depth y.depth < cLine:=by
  intro x y h1 h2
  obtain ⟨as,r1,r2,r3⟩:=wT I 8 a ca x ha h1
  obtain ⟨bs,g1,g2,g3⟩:=wT I 8 b cb y hb h2
  exact ⟨as,bs,r1,g1,r2,g2,Nat.lt_of_le_of_lt (Nat.add_le_add (Nat.le_add_right _ (20 * lv)) (Nat.le_trans (Nat.min_le_left _ _) (Nat.le_trans r3 (by decide)))) U⟩
 cases op with
 | Eq =>
  obtain ⟨x,y,h1,h2,rfl⟩:=qNr hr
  obtain ⟨as,bs,q1,q2,q3,q4,q5⟩:=two h1 h2
  exact SeqAt.compareEq_reads q1 q2 q3 q4 q5 hQ
 | NotEq =>
  obtain ⟨x,y,h1,h2,h3⟩:=qNr (zDv hr)
  obtain ⟨as,bs,q1,q2,q3,q4,q5⟩:=two h1 h2
  exact SeqAt.compareNe_reads q1 q2 q3 q4 q5 (by rw [← h3,Bool.not_not]; exact hQ)
 | Lt=>obtain ⟨x,y,rfl,rfl,rfl⟩:=qBr hr; obtain ⟨_,rfl⟩:=ha.inv_int; obtain ⟨_,rfl⟩:=hb.inv_int; exact PySem.P.lt_int hQ
 | Gt=>obtain ⟨x,y,rfl,rfl,rfl⟩:=qBr hr; obtain ⟨_,rfl⟩:=ha.inv_int; obtain ⟨_,rfl⟩:=hb.inv_int; exact PySem.P.gt_int hQ
 | GtE=>obtain ⟨x,y,rfl,rfl,rfl⟩:=qBr hr; obtain ⟨_,rfl⟩:=ha.inv_int; obtain ⟨_,rfl⟩:=hb.inv_int; exact PySem.P.ge_int hQ
 | In =>
  replace hr:(zO b).elim (inL σ.toHp a b) (fun x=>(zO a).map fun y=>Txt.contains x y)=some r:=hr
  cases hx:zO b with
  | some x =>
   rw [hx] at hr
   obtain ⟨y,h1,rfl⟩:=Option.map_eq_some_iff.mp hr
   obtain rfl:=qQ hx
   obtain rfl:=qQ h1
   obtain ⟨_,rfl,_⟩:=ha.inv_str; obtain ⟨_,rfl,_⟩:=hb.inv_str
   exact PySem.P.in_str hQ
  | none =>
   rw [hx] at hr
   obtain ⟨x,h1,h2⟩:=Option.bind_eq_some_iff.mp (show Option.bind _ _=_ from hr)
   obtain ⟨ys,h3,h4⟩:=Option.bind_eq_some_iff.mp h2
   obtain ⟨l,h5,rfl⟩:=Option.map_eq_some_iff.mp h4
   obtain ⟨as,r1,r2,r3⟩:=wT I 8 a ca x ha h1
   obtain ⟨k,items,rfl,⟨o,ho,hc,n,hd⟩,hv,hz⟩:=zV I hb h3
   obtain ⟨bs,g1,g2,g3⟩:=wO (wT I 7) hv (vX h5)
   refine SeqAt.in_list_reads (.list ho hc hd g1) r1 g2 r2 ?_ hQ
   have:=Nat.min_le_right (PyData.depthAll l) x.depth
   lia
 | Is =>
  obtain ⟨rfl,h⟩:=zEl hr
  cases hb
  obtain ⟨h1,h2⟩:=qQx ha h
  exact wpAny_is_plain h1 (by rw [h2]; exact hQ)
 | _=>cases hr
theorem qNx {lv:Nat} (F:Fm P lv fr A env) (I:Inv P fr W σ.toHp s) (L:Loc P env W σ s.heap) {op:CmpOp} {a b:V} {ca cb:Value} (ha:VR W σ.nxt a ca) (hb:VR W σ.nxt b cb) (hne:(wE σ.toHp op a b).st σ≠.bad) :
  wpAny P.M A (compareOp op ca cb) (Post P fr env W σ s ((wE σ.toHp op a b).st σ)) NoE s:=by
 obtain ⟨r,hr⟩:=qSc hne
 have e:wE σ.toHp op a b=.ok (.bool r):=by unfold wE; rw [hr]; rfl
 rw [e]
 exact zFq F I L ha hb hr (qN rfl (Step.refl I L) (.bool _))
theorem zDw (I:Inv P fr W σ.toHp s) (L:Loc P env W σ s.heap) {a:V} {ca:Value} (ha:VR W σ.nxt a ca) (hne:(zDx a).st σ≠.bad) :
  wpAny P.M A (unaryOp .USub ca) (Post P fr env W σ s ((zDx a).st σ)) NoE s:=by
 cases ha with
 | int i t=>exact PySem.P.neg_int (qN rfl (Step.toks I L _) (.int ..))
 | _=>exact absurd rfl hne
end
section
variable {P:Par} {fr:List Nat} {A:Around} {env:Env} {W:Wd} {σ:St} {s:Shared}
theorem xR {sl:Expr} (h:qAt sl=false) (o i:Value):subscripted sl false o i=operate [o,i] (getItem o i):=by
 cases sl <;> first | rfl | cases h
theorem qJx {k:Int} {n j:Nat} (h:seqIndex? k n=some j):(0≤k∧k < n∧k.toNat=j)∨(k < 0∧0≤k+n∧(k+n).toNat=j):=by
 have at_:∀ i:Int,(if (decide (0≤i) && decide (i < n))=true then some i.toNat else none)=some j→0≤i∧i < n∧i.toNat=j:=fun i h=>by
  by_cases q:(decide (0≤i) && decide (i < n))=true
  ·rw [if_pos q] at h
   have q':=Bool.and_eq_true_iff.mp q
   exact ⟨of_decide_eq_true q'.1,of_decide_eq_true q'.2,Option.some.inj h⟩
  ·rw [if_neg q] at h; cases h
 by_cases h0:k < 0
 ·obtain ⟨a,_,b⟩:=at_ (k+n) (by have e:(if k < 0 then k+n else k)=k+n:=if_pos h0; rw [← e]; exact h)
  exact .inr ⟨h0,a,b⟩
 ·exact .inl (at_ k (by have e:(if k < 0 then k+n else k)=k:=if_neg h0; rw [← e]; exact h))
theorem uQ {E:Value→Shared→Prop} {l:Addr} {items:Array Value} {k:Int} {t:Tok} {j:Nat} {x:Value} {Q:Value→Shared→Prop} (hl:s.heap.IsList l items)
  (hf:xO k=true) (hj:seqIndex? k items.size=some j) (hx:items[j]? = some x) (h:Q x s):wpAny P.M A (getItem (.ref l) (.int k t)) Q E s:=by
 unfold xO at hf
 simp only [Bool.and_eq_true,decide_eq_true_eq] at hf
 rcases qJx hj with ⟨h0,h1,e⟩ | ⟨h0,h1,e⟩
 ·exact wpAny_getItem_list hl h0 hf.2 (by rw [e]; exact hx) h
 ·exact wpAny_getItem_list_neg hl h0 (by lia) hf.1 (by rw [e]; exact hx) h
theorem qOs {x:Str} (h:PyData.strOk x=true) {j c:Nat} (hc:x.cps[j]? = some c):PyData.strOk ⟨#[c]⟩=true:=by
 have:=Array.all_eq_true_iff_forall_mem.mp (show x.cps.all (· < 0x110000)=true from h) c (Array.mem_of_getElem? hc)
 show (#[c]:Array Nat).all _=true
 simpa using this
theorem qJe (I:Inv P fr W σ.toHp s) {ys:List V} {c:Value} (h:VR W σ.nxt (.tup ys) c):∃ t o items e,c=.ref t∧s.heap.get? t=some o∧o.cls=.type "tuple" ∧ o.data=.seq items e∧VRs W σ.nxt ys items.toList:=by
 cases h with
 | tup a b d z r=>exact ⟨_,_,_,_,rfl,(I.frz _ _ a).1,b,d,r⟩
theorem zEp {a i:V} (I:Inv P fr W σ.toHp s) (L:Loc P env W σ s.heap) {ca ci:Value} (ha:VR W σ.nxt a ca) (hi:VR W σ.nxt i ci) (hne:(jK σ.toHp a i).st σ≠.bad) {value sl:Expr} (hsl:qAt sl=false) :
  wpAny P.M A (subscriptTail value sl ca ci) (Post P fr env W σ s ((jK σ.toHp a i).st σ)) NoE s:=by
 have hne':jK σ.toHp a i≠.bad:=fun q=>hne (by rw [q]; rfl)
 clear hne
 obtain ⟨k,ei⟩:=xE hne'
 obtain rfl:=qS ei
 obtain ⟨u,rfl⟩:=hi.inv_int
 by_cases hf:xO k=true
 ·cases es:zO a with
  | some x =>
   obtain rfl:=qQ es
   have he:jK σ.toHp (.str x) (.int k)=((seqIndex? k x.length).bind (x.cps[·]?)).elim .bad fun c=>.ok (.str ⟨#[c]⟩):=if_pos hf
   rw [he] at hne' ⊢
   obtain ⟨c,hc⟩:=xE hne'
   rw [hc]
   obtain ⟨t,rfl,hz,hok⟩:=ha.inv_str
   refine tail_any (typeIs_str s x t) PySem.F.slot_str_getitem.lookup ?_ (xR hsl _ _)
   have hr:(decide (k < -(2 ^ 63:Int)) || decide (k ≥ 2 ^ 63))=false:=by
    unfold xO at hf
    rw [Bool.and_eq_true,decide_eq_true_eq,decide_eq_true_eq] at hf
    rw [Bool.or_eq_false_iff,decide_eq_false_iff_not,decide_eq_false_iff_not]
    exact ⟨Int.not_lt.mpr hf.1,Int.not_le.mpr hf.2⟩
   obtain ⟨j,h1,h2⟩:=Option.bind_eq_some_iff.mp hc
   exact PySem.P.getItem_str hr hc (qN rfl (Step.toks I L _) (.str _ _ (by show 1≤sizeLine; decide) (qOs hok h2)))
  | none =>
   have he:jK σ.toHp a (.int k)=(qNz σ.toHp a).elim .bad fun xs=>((seqIndex? k xs.length).bind (xs[·]?)).elim .bad .ok:=by
    refine (if_pos hf).trans ?_
    rw [es]
   rw [he] at hne' ⊢
   obtain ⟨xs,hx⟩:=xE hne'
   rw [hx] at hne' ⊢
   obtain ⟨v,hv⟩:=xE (show ((seqIndex? k xs.length).bind (xs[·]?)).elim Ov.bad Ov.ok≠.bad from hne')
   have hv':(some xs).elim Ov.bad (fun xs=>((seqIndex? k xs.length).bind (xs[·]?)).elim .bad .ok)=.ok v:=by
    show ((seqIndex? k xs.length).bind (xs[·]?)).elim Ov.bad Ov.ok=_
    rw [hv]; rfl
   rw [hv']
   by_cases ht:∃ ys,a=.tup ys
   ·obtain ⟨ys,rfl⟩:=ht
    cases hx
    obtain ⟨t,o,items,e,rfl,h1,h2,h3,h4⟩:=qJe I ha
    have hlen:=h4.length
    rw [Array.length_toList] at hlen
    obtain ⟨j,h5,h6⟩:=Option.bind_eq_some_iff.mp hv
    obtain ⟨c,g1,g2⟩:=h4.get h6
    have hf':=hf
    unfold xO at hf'
    rw [Bool.and_eq_true,decide_eq_true_eq,decide_eq_true_eq] at hf'
    exact tail_any ⟨o,h1,h2⟩ PySem.F.slot_tuple_getitem.lookup (PyProof.Rows.getItem_tuple ⟨o,h1,h2,e,h3⟩ hf'.1 hf'.2 (by rw [hlen]; exact h5) (by rw [← Array.getElem?_toList]; exact g1) (qN rfl (Step.refl I L) g2)) (xR hsl _ _)
   have hx:qM σ.toHp a=some xs:=by
    rw [← hx]
    cases a <;> first | rfl | exact absurd ⟨_,rfl⟩ ht
   obtain ⟨l,items,rfl,hl,hr,hz⟩:=zV I ha hx
   have hlen:=hr.length
   rw [Array.length_toList] at hlen
   refine tail_any hl.typeIs slot_list_getitem.lookup ?_ (xR hsl _ _)
   obtain ⟨j,h1,h2⟩:=Option.bind_eq_some_iff.mp hv
   obtain ⟨c,g1,g2⟩:=hr.get h2
   exact uQ hl hf (by rw [hlen]; exact h1) (by rw [← Array.getElem?_toList]; exact g1) (qN rfl (Step.refl I L) g2)
 ·exact absurd (if_neg hf) hne'
theorem wA {H:Hp} {a:V} {i:Int} {xs:List V} {j:Nat} {v:V} (hs:zO a=none) (h:qM H a=some xs) (hf:xO i=true) (hq:seqIndex? i xs.length=some j) (hx:xs[j]? = some v):jK H a (.int i)=.ok v:=by
 refine (if_pos hf).trans ?_
 rw [hs]
 show (qNz H a).elim Ov.bad _=_
 have hq':qNz H a=qM H a:=by
  cases a <;> first | rfl | (cases h; done)
 rw [hq',h]
 show ((seqIndex? i xs.length).bind (xs[·]?)).elim Ov.bad Ov.ok=_
 rw [hq]
 show (xs[j]?).elim Ov.bad Ov.ok=_
 rw [hx]; rfl
theorem qNj {H:Hp} {x:Str} {i:Int} {j c:Nat} (hf:xO i=true) (hq:seqIndex? i x.length=some j) (hx:x.cps[j]? = some c):jK H (.str x) (.int i)=.ok (.str ⟨#[c]⟩):=by
 refine (if_pos hf).trans ?_
 show ((seqIndex? i x.length).bind (x.cps[·]?)).elim Ov.bad _=_
 rw [hq]
 show (x.cps[j]?).elim Ov.bad _=_
 rw [hx]; rfl
theorem qEj {W:Wd} {n:Nat} {v:V} {c:Value} {p:Option Int} (hv:VR W n v c) (e:wF v=some p):∃ q:Option (Int×Tok),c=partValue q∧p=q.map (·.1)∧IsPart c p:=by
 cases hv with
 | none=>cases e; exact ⟨none,rfl,rfl,.none⟩
 | int i t=>cases e; exact ⟨some (i,t),rfl,rfl,.int i t⟩
 | _=>cases e
theorem VRs.cut {W:Wd} {n:Nat} {xs:List V} {cs:List Value} (h:VRs W n xs cs) (l u:Option Int):VRs W n (Mine.Lake.cut xs l u) (Mine.Lake.cut cs l u):=by
 unfold Mine.Lake.cut
 rw [h.length]
 exact (h.drop _).take _
theorem zFr (n:Nat) (i:Int):clipAt n i≤n:=by
 have:=clipAt_cast n i
 lia
theorem qPn (x:Str) (l u:Option Int):Txt.slice x l u=⟨(cut x.cps.toList l u).toArray⟩:=by
 have h1:Builtin.Str.strSliceIndices l u 1 x.length=sliceRange ((l.elim 0 (clipAt x.length):Nat):Int) ((u.elim x.length (clipAt x.length):Nat):Int) 1:=by
  unfold Builtin.Str.strSliceIndices
  cases l <;> cases u <;> simp [clipAt_cast]
 have e:(Builtin.Str.strSliceIndices l u 1 x.length).filterMap (x.cps[·]?)=cut x.cps.toList l u:=by
  rw [h1,sliceRange_one,pick_run]
  unfold cut
  rw [Array.length_toList]; rfl
 unfold Txt.slice
 split
 ·rename_i h
  have hl:(Builtin.Str.strSliceIndices l u 1 x.length).length=x.length:=beq_iff_eq.mp h
  have h3:cut x.cps.toList l u=x.cps.toList:=by
   have hs:(cut x.cps.toList l u).Sublist x.cps.toList:=(List.take_sublist _ _).trans (List.drop_sublist _ _)
   refine hs.eq_of_length ?_
   have hlen:(u.elim x.length (clipAt x.length)) - (l.elim 0 (clipAt x.length))=x.length:=by
    rw [h1,sliceRange_one] at hl; simpa using hl
   have hu:u.elim x.length (clipAt x.length)≤x.length:=by
    cases u with
    | none=>exact Nat.le_refl _
    | some i=>exact zFr _ _
   have hx:x.cps.toList.length=x.length:=Array.length_toList
   unfold cut
   rw [hx,List.length_take,List.length_drop,hx,hlen]
   exact Nat.min_eq_left (Nat.le_trans (Nat.le_of_eq hlen.symm) (Nat.sub_le_sub_right hu _))
  rw [h3]
 ·rw [e]
theorem qOt {x:Str} (h:PyData.strOk x=true) (l u:Option Int):PyData.strOk ⟨(cut x.cps.toList l u).toArray⟩=true:=by
 have h':∀ c∈x.cps.toList,c < 0x110000:=by
  intro c hc
  have:=Array.all_eq_true_iff_forall_mem.mp (show x.cps.all (· < 0x110000)=true from h) c (by simpa using hc)
  simpa using this
 show ((cut x.cps.toList l u).toArray).all (· < 0x110000)=true
 rw [Array.all_eq_true_iff_forall_mem]
 intro c hc
 have hc':c∈cut x.cps.toList l u:=by simpa using hc
 have hs:(cut x.cps.toList l u).Sublist x.cps.toList:=(List.take_sublist _ _).trans (List.drop_sublist _ _)
 simpa using h' c (hs.subset hc')
theorem qDc {α:Type} (xs:List α) (l u:Option Int):(cut xs l u).length≤xs.length :=
 ((List.take_sublist _ _).trans (List.drop_sublist _ _)).length_le
theorem zAo (I:Inv P fr W σ.toHp s) (L:Loc P env W σ s.heap) {a l u:V} {ca cl cu:Value} (ha:VR W σ.nxt a ca) (hl:VR W σ.nxt l cl) (hu:VR W σ.nxt u cu) (hne:(yA σ.toHp a l u).st σ≠.bad) {value lo hi p} :
  wpAny P.M A (subscriptTail value (.Slice lo hi Option.none p) ca (.ref s.heap.objs.size)) (Post P fr env W σ s ((yA σ.toHp a l u).st σ)) NoE { s with heap:=s.heap.push { cls:=.type "slice", data:=.fields #[cl,cu,.none] } }:=by
 have st0:Step P fr env W σ s W σ { s with heap:=s.heap.push { cls:=.type "slice", data:=.fields #[cl,cu,.none] } }:=Step.push I L _ rfl rfl rfl
 have hne':yA σ.toHp a l u≠.bad:=fun q=>hne (by rw [q]; rfl)
 clear hne
 obtain ⟨l',e1⟩:=xE hne'
 obtain ⟨q1,rfl,rfl,i1⟩:=qEj hl e1
 obtain ⟨u',e2⟩:=xE (show (wF u).elim Ov.bad _≠.bad from fun q=>hne' (by unfold yA; rw [e1]; exact q))
 obtain ⟨q2,rfl,rfl,i2⟩:=qEj hu e2
 cases hs:zO a with
 | some x =>
  have he:yA σ.toHp a l u=.ok (.str ⟨(cut x.cps.toList (q1.map (·.1)) (q2.map (·.1))).toArray⟩):=by unfold yA; rw [e1,e2,hs]; rfl
  rw [he]
  obtain rfl:=qQ hs
  obtain ⟨t,rfl,hz,hok⟩:=ha.inv_str
  refine tail_any (typeIs_str _ x t) PySem.F.slot_str_getitem.lookup ?_ (ops:=[.ref s.heap.objs.size,.str x t]) rfl
  refine wpAny_getItem_str_slice (l:=q1) (u:=q2) (st:=none) ⟨_,Heap.get?_push_size _ rfl,rfl,rfl⟩ rfl ?_
  have hle:(⟨(cut x.cps.toList (q1.map (·.1)) (q2.map (·.1))).toArray⟩:Str).length≤sizeLine:=by
   show (List.toArray _).size≤_
   rw [List.size_toArray]
   have h1:=qDc x.cps.toList (q1.map (·.1)) (q2.map (·.1))
   have h2:x.cps.toList.length=x.length:=Array.length_toList
   exact Nat.le_trans h1 (h2 ▸ hz)
  have e:=qPn x (q1.map (·.1)) (q2.map (·.1))
  unfold Txt.slice at e
  unfold sliceMade slicePicked
  simp only [Option.map_none,Option.getD_none]
  split
  ·rename_i h
   rw [if_pos h] at e
   exact Post.after st0 (qN rfl (Step.refl st0.inv st0.loc) (by rw [← e]; exact .str _ _ hz hok))
  ·rename_i h
   rw [if_neg h] at e
   rw [e]
   exact ⟨hle,Post.after st0 (qN rfl (Step.toks st0.inv st0.loc _) (.str _ _ hle (qOt hok _ _)))⟩
 | none =>
  have he:yA σ.toHp a l u=(qM σ.toHp a).elim .bad fun xs=>.ok (.list (cut xs (q1.map (·.1)) (q2.map (·.1)))):=by unfold yA; rw [e1,e2,hs]; rfl
  rw [he] at hne' ⊢
  obtain ⟨xs,hx⟩:=xE hne'
  rw [hx]
  obtain ⟨k,items,rfl,hL,hr,hz⟩:=zV st0.inv ha hx
  refine tail_any hL.typeIs slot_list_getitem.lookup ?_ (ops:=[.ref s.heap.objs.size,.ref k]) rfl
  refine wpAny_getItem_list_slice hL (Heap.IsSliceOf.new ..) i1 i2 .none (by simp) ?_ hz
  have e:(slicePick items (q1.map (·.1)) (q2.map (·.1)) none).toList=Mine.Lake.cut items.toList (q1.map (·.1)) (q2.map (·.1)):=by
   rw [slicePick_plain]; unfold Mine.Lake.cut; rw [Array.length_toList]
  refine Post.after st0 ?_
  exact jF (items:=slicePick items (q1.map (·.1)) (q2.map (·.1)) none) st0.inv st0.loc (by rw [e]; exact hr.cut _ _) (Nat.le_trans (slicePick_size_le items (q1.map (·.1)) (q2.map (·.1)) none) hz) rfl rfl rfl
end
structure ScOk (sc:Scope) (env:Env):Prop where
 loc:∀ x,sc.names.lookup x=some .local→env.kindOf x=some .local
 glob:∀ x,sc.names.lookup x=some .globalImplicit→env.kindOf x=some .globalImplicit
 cel:∀ x,(sc.names.lookup x=some .cell∨sc.names.lookup x=some .free)→env.kindOf x=some .cell∨env.kindOf x=some .free
 cell:∀ x,sc.names.lookup x=some .cell→env.kindOf x=some .cell
 has:∀ x,(env.kindOf x=some .cell∨env.kindOf x=some .free)→∃ a,env.cells.lookup x=some a
noncomputable def kO (v:V) (σ:St):Rs Bool:=match zT σ.toHp v with | some b=>.ok b σ | Option.none=>.bad
noncomputable def tr (f:St→Rs V) (σ:St):Rs Bool:=(f σ).bind kO
noncomputable def wG (f:St→Rs V) (σ:St):Rs (List V):=(f σ).bind fun v σ'=>kM v σ' fun xs σ'=>.ok xs σ'
noncomputable def vB (M:Model) (A:Around) (cf:Value) (s:Shared):Prop:=∀ (E:Value→Shared→Prop) (Q:Keeper→Shared→Prop),(∀ k,Q k s)→wpAny M A (keeperOf cf) Q E s
noncomputable def qIy (P:Par):Prop:=∃ mg bm ob,P.B.Ns mainGlobals mg∧mg "__builtins__" = some (.ref bm)∧bm≠builtinsNs∧P.B.get? bm=some ob∧ob.cls=.type "module" ∧ ob.dict=some builtinsNs∧ob.data=.plain
structure CxOk (P:Par) (cx:Cx):Prop where
 lam:qIy P
 cal:cx.calm=false→P.ex=none
 gl:∀ x v,cx.gl x=some v→∃ c mg mb,P.B.Ns mainGlobals mg∧P.B.Ns builtinsNs mb∧(mg x=some c∨(mg x=none∧mb x=some c))∧∀ W n,VR W n v c
 app:∀ fr A env,Fm P cx.lvl fr A env→∀ W σ s,Inv P fr W σ.toHp s→Loc P env W σ s.heap→∀ f args cf cargs,VR W σ.nxt f cf→VRs W σ.nxt args cargs→(cx.app f args σ.toHp).lift σ≠.bad →
  vB P.M A cf s∧wpAny P.M A (call cf cargs []) (Post P fr env W σ s ((cx.app f args σ.toHp).lift σ)) NoE s
 get:∀ fr A env,Fm P cx.lvl fr A env→∀ W σ s,Inv P fr W σ.toHp s→Loc P env W σ s.heap→∀ o m co vf first,VR W σ.nxt o co→cx.get o m σ.toHp=some (vf,first)→∀ (pl:Sem Bool) (E:Value→Shared→Prop) (Q:Value×List Value→Shared→Prop),
  (∀ r s' W',Step P fr env W σ s W' σ s'→VR W' σ.nxt vf r.1→VRs W' σ.nxt first r.2→Q r s')→wpAny P.M A (getMethod co m pl) Q E s
 fld:∀ fr A env,Fm P cx.lvl fr A env→∀ W σ s,Inv P fr W σ.toHp s→Loc P env W σ s.heap→∀ o f co,VR W σ.nxt o co→(cx.fld o f σ.toHp).st σ≠.bad →
  wpAny P.M A (getAttr co f true) (Post P fr env W σ s ((cx.fld o f σ.toHp).st σ)) NoE s
section
variable {P:Par} {fr:List Nat} {A:Around} {env:Env} {W:Wd} {σ:St} {s:Shared} {cx:Cx}
theorem qFr {M:Model} {E:Value→Shared→Prop} {f:Value} {trees:List (Bool×Sem Value)} {Q:Args→Shared→Prop} (hs:trees.any (·.1)=false)
  (h:wpAny M A (spliced trees) (fun vs s'=>Q ⟨vs,[]⟩ s') E s):wpAny M A (evalArgs f true trees []) Q E s:=by
 cases trees with
 | nil =>
  unfold evalArgs
  show wpAny M A (spliced [] >>= _) Q E s
  refine wpAny_bind (wpAny_mono h (fun vs s' h'=>?_) fun _ _ x=>x)
  refine wpAny_bind (wpAny_pure ?_)
  refine wpAny_holding ?_
  exact wpAny_bind (wpAny_pure (wpAny_bind (wpAny_pure (wpAny_pure h'))))
 | cons x r =>
  obtain ⟨b,t⟩:=x
  have hb:b=false:=by simp at hs; exact hs.1
  subst hb
  exact Calls.evalArgs_plain h
theorem xF {M:Model} {E:Value→Shared→Prop} {pos:Pos} {f:Value} {first:List Value} {trees:List (Bool×Sem Value)} {Q:Value→Shared→Prop} (hs:trees.any (·.1)=false)
  (h:wpAny M A (spliced trees) (fun vs s₁=>vB M A f s₁∧wpAny M A (call f (first++vs) []) Q E s₁) E s):wpAny M A (callWith pos f first trees []) Q E s:=by
 unfold callWith
 refine wpAny_bind (wpAny_holding (qFr hs (wpAny_mono h (fun vs s₁ h₁=>wpAny_bind (wpAny_standAt ?_)) fun _ _ x=>x)))
 rw [hs,show (false || ([]:List (Option Str×Sem Value)).any (fun x=>x.1.isNone))=false from rfl]
 have tail:∀ {t:Sem Value},wpAny M A t Q E s₁→wpAny M A (t >>= fun r=>holding [r] point >>= fun _=>pure r) Q E s₁ :=
  fun ht=>wpAny_bind (wpAny_mono ht (fun r s₂ hr=>wpAny_bind (wpAny_holding (wpAny_point (wpAny_pure hr)))) fun _ _ x=>x)
 refine wpAny_bind (h₁.1 _ _ fun k=>?_)
 cases k with
 | frame =>
  dsimp only
  split
  ·exact tail h₁.2
  ·exact tail (by unfold callMarked; exact Calls.wpAny_keep h₁.2)
 | boundFrame =>
  dsimp only
  split
  ·exact tail h₁.2
  ·exact tail (by unfold callMarked; exact Calls.wpAny_keep h₁.2)
 | machine=>exact tail h₁.2
 | caller=>exact tail (wpAny_operating h₁.2)
end
section
variable {P:Par} {fr:List Nat} {A:Around} {env:Env} {W:Wd} {σ:St} {s:Shared} {cx:Cx}
noncomputable def zMo (P:Par) (cx:Cx) (x:X) (fr:List Nat) (A:Around) (env:Env):Ph→Prop
 | .e ex=>OkE P fr A env (eval ex env) (ev cx x)∧OkB P fr A env (isTrue ex env (eval ex env)) (tr (ev cx x))
 | .none=>OkE P fr A env (pure .none) (ev cx x)
 | .es l=>∀ pos,(backTo pos (starEach l env)).any (·.1)=false∧(backTo pos (starEach l env)).length=l.length∧OkL P fr A env (spliced (backTo pos (starEach l env))) (wG (ev cx x))
 | .an l=>l≠[]∧∀ pos whole,OkE P fr A env (eval (.BoolOp .And l pos) env) (ev cx x)∧OkB P fr A env (isTrue (.BoolOp .And l pos) env whole) (tr (ev cx x))
 | .or l=>l≠[]∧∀ pos whole,OkE P fr A env (eval (.BoolOp .Or l pos) env) (ev cx x)∧OkB P fr A env (isTrue (.BoolOp .Or l pos) env whole) (tr (ev cx x))
 | .cond l=>l=[]∧∀ σ,ev cx x σ=.ok (.bool true) σ
noncomputable def Snd (P:Par) (cx:Cx) (x:X) (sc:Scope) (ph:Ph):Prop:=∀ fr A env,Fm P cx.lvl fr A env→ScOk sc env→zMo P cx x fr A env ph
theorem zIj {t:Sem Value} {f:St→Rs V} {t':Sem Bool} (h:OkE P fr A env t f) (ht:∀ (E:Value→Shared→Prop) (Q:Bool→Shared→Prop) s,wpAny P.M A t (fun v s₁=>wpAny P.M A (truthy v) Q E s₁) E s→wpAny P.M A t' Q E s) :
  OkB P fr A env t' (tr f):=fun W σ s I L hne=>by
 refine ht _ _ s (qTg h I L hne (fun e s' h=>h) fun v c W' σ' s' e st hv=>?_)
 have hb:tr f σ=kO v σ':=Rs.bind_ok e
 rw [hb] at hne ⊢
 unfold kO at hne ⊢
 revert hne
 split <;> intro hne
 ·rename_i b hb'
  exact truthy_ok st.inv hv hb' fun t=>⟨σ',W',rfl,st.trans (Step.toks st.inv st.loc t)⟩
 ·exact absurd rfl hne
theorem qL {ex:Expr} {f:St→Rs V} (h:OkE P fr A env (eval ex env) f) (he:∀ whole,isTrue ex env whole=(do let v ← whole; standAt ex.pos; holding [v] (truthy v))) :
  OkB P fr A env (isTrue ex env (eval ex env)) (tr f):=zIj h fun _ _ _ hq=>isTrue_plain hq (he _)
theorem wM {x:X} {v:V} {ex:Expr} (hev:∀ σ,ev cx x σ=.ok v σ) (hok:∀ W σ s,Inv P fr W σ.toHp s→Loc P env W σ s.heap→∀ (Q:Value→Shared→Prop) (E:Value→Shared→Prop),(∀ c t,VR W σ.nxt v c→Q c { s with toks:=t })→wpAny P.M A (eval ex env) Q E s) :
  OkE P fr A env (eval ex env) (ev cx x):=fun W σ s I L _=>hok W σ s I L _ _ fun c t hv=>by rw [hev]; exact qN rfl (Step.toks I L t) hv
theorem vY {x:Str} (h:zL x=true):(x == ("__debug__" : Str))=false∧(x == ("__classdict__" : Str))=false:=by
 simp only [zL,Bool.and_eq_true,bne,Bool.not_eq_true'] at h
 exact h
theorem qZz {sc:Scope} {x:Str} {p:Pos} (h:(zL x && sc.names.lookup x == some .local)=true):Snd P cx (.var x) sc (.e (.Name x p)):=by
 intro fr A env F S
 simp only [Bool.and_eq_true,beq_iff_eq] at h
 obtain ⟨hd,hcd⟩:=vY h.1
 have hk:=S.loc x h.2
 have key:OkE P fr A env (eval (.Name x p) env) (ev cx (.var x)):=fun W σ s I L hne=>by
  have hev:ev cx (.var x) σ=(match σ.loc.lookup x with | some v=>.ok v σ | Option.none=>.bad):=rfl
  rw [hev] at hne ⊢
  split at hne
  ·rename_i v hv
   obtain ⟨m,hn,hl⟩:=L.loc
   obtain ⟨_,c,hm,hr⟩:=hl x v hv
   exact wpAny_Name (wpAny_loadName_local L.kind hk hn hm (qN rfl (Step.refl I L) hr)) hd
  ·exact absurd rfl hne
 exact ⟨key,qL key fun _=>rfl⟩
theorem zHm {sc:Scope} {x:Str} {p:Pos} (h:(zL x && (sc.names.lookup x == some .cell || sc.names.lookup x == some .free))=true):Snd P cx (.cv x) sc (.e (.Name x p)):=by
 intro fr A env F S
 simp only [Bool.and_eq_true,Bool.or_eq_true,beq_iff_eq] at h
 obtain ⟨hd,hcd⟩:=vY h.1
 have hk:=S.cel x h.2
 have key:OkE P fr A env (eval (.Name x p) env) (ev cx (.cv x)):=fun W σ s I L hne=>by
  have hev:ev cx (.cv x) σ=(match σ.cel.lookup x with
   | some k=>(match σ.obj k with | some (.cell (some v))=>.ok v σ | _=>.bad)
   | Option.none=>.bad):=rfl
  rw [hev] at hne ⊢
  revert hne
  split
  ·rename_i k hk'
   split <;> intro hne
   ·rename_i v hv
    obtain ⟨p,q⟩:=L.cel x k hk'
    obtain ⟨_,c,hc,hr⟩:=I.obj k _ hv
    cases hr with
    | cell hd' hr =>
     have hcell:s.heap.IsCell (W.ρ k) (some _):=⟨_,hc,hd'⟩
     refine wpAny_Name ?_ hd
     rcases hk with hk | hk
     ·exact wpAny_loadName_cell L.kind hk (q (.inl hk)) hcell (qN rfl (Step.refl I L) hr)
     ·refine wpAny_loadName_free L.kind hk (q (.inr hk)) hcell (qN rfl (Step.refl I L) hr) hcd
   ·exact absurd rfl hne
  ·intro hne; exact absurd rfl hne
 exact ⟨key,qL key fun _=>rfl⟩
theorem kY (I:Inv P fr W σ.toHp s) {a:Addr} {m:Str→Option Value} (h:P.B.Ns a m):s.heap.Ns a m:=h.keeps I.keep
theorem qTu (C:CxOk P cx) {sc:Scope} {x:Str} {p:Pos} (h:(zL x && sc.names.lookup x == some .globalImplicit)=true):Snd P cx (.glob x) sc (.e (.Name x p)):=by
 intro fr A env F S
 simp only [Bool.and_eq_true,beq_iff_eq] at h
 obtain ⟨hd,hcd⟩:=vY h.1
 have hk:=S.glob x h.2
 have key:OkE P fr A env (eval (.Name x p) env) (ev cx (.glob x)):=fun W σ s I L hne=>by
  have hev:ev cx (.glob x) σ=(match cx.gl x with | some v=>.ok v σ | Option.none=>.bad):=rfl
  rw [hev] at hne ⊢
  revert hne
  split <;> intro hne
  ·rename_i v hv
   obtain ⟨c,mg,mb,n1,n2,hc,hr⟩:=C.gl x v hv
   refine Calls.Name_function_global (env:=env) L.kind hk ?_ hd
   rcases hc with hc | ⟨hc,hb⟩
   ·exact Calls.loadGlobal_global (by rw [L.glob]; exact kY I n1) hc (qN rfl (Step.refl I L) (hr _ _))
   ·exact Calls.loadGlobal_builtin (by rw [L.glob]; exact kY I n1) hc (by rw [L.bns]; exact kY I n2) hb (qN rfl (Step.refl I L) (hr _ _))
  ·exact absurd rfl hne
 exact ⟨key,qL key fun _=>rfl⟩
theorem qTr {sc:Scope} {k:Nat} {p:Pos}:Snd P cx .none sc (.e (.Constant .none k p)):=fun fr A env F S =>
 have key:OkE P fr A env (eval (.Constant .none k p) env) (ev cx .none):=wM (v:=.none) (fun _=>rfl) fun W σ s I L Q E hq=>fun _ _ _=>hq .none s.toks .none
 ⟨key,qL key fun _=>rfl⟩
theorem qOx {sc:Scope}:Snd P cx .none sc .none:=fun fr A env F S W σ s I L _=>wpAny_pure (qN rfl (Step.refl I L) .none)
theorem qTx {sc:Scope} {b:Bool} {k:Nat} {p:Pos}:Snd P cx (.bool b) sc (.e (.Constant (.bool b) k p)):=fun fr A env F S =>
 have key:OkE P fr A env (eval (.Constant (.bool b) k p) env) (ev cx (.bool b)):=wM (v:=.bool b) (fun _=>rfl) fun W σ s I L Q E hq=>fun _ _ _=>hq (.bool b) s.toks (.bool b)
 ⟨key,qL key fun _=>rfl⟩
theorem zHk {sc:Scope}:Snd P cx (.bool true) sc (.cond []):=fun fr A env F S=>⟨rfl,fun σ=>rfl⟩
theorem zAi {sc:Scope} {i:Int} {k:Nat} {p:Pos}:Snd P cx (.int i) sc (.e (.Constant (.int i) k p)):=fun fr A env F S =>
 have key:OkE P fr A env (eval (.Constant (.int i) k p) env) (ev cx (.int i)):=wM (v:=.int i) (fun _=>rfl) fun W σ s I L Q E hq=>wpAny_Constant_int (hq _ _ (.int _ _))
 ⟨key,qL key fun _=>rfl⟩
theorem zAb {sc:Scope} {x:Str} {k:Nat} {p:Pos} (h:(decide (x.length≤sizeLine) && PyData.strOk x)=true):Snd P cx (.str x) sc (.e (.Constant (.str x) k p)):=fun fr A env F S=>by
 simp only [Bool.and_eq_true,decide_eq_true_eq] at h
 have key:OkE P fr A env (eval (.Constant (.str x) k p) env) (ev cx (.str x)):=wM (v:=.str x) (fun _=>rfl) fun W σ s I L Q E hq=>Calls.Constant_str (hq _ _ (.str _ _ h.1 h.2))
 exact ⟨key,qL key fun _=>rfl⟩
theorem qTf {ta tb:Sem Value} {fa fb:St→Rs V} {g:Value→Value→Sem Value} {k:V→V→St→Rs V} (ha:OkE P fr A env ta fa) (hb:OkE P fr A env tb fb) (I:Inv P fr W σ.toHp s) (L:Loc P env W σ s.heap)
  (hne:((fa σ).bind fun va σ₁=>(fb σ₁).bind fun vb σ₂=>k va vb σ₂)≠.bad)
  (hg:∀ W σ s va vb ca cb,Inv P fr W σ.toHp s→Loc P env W σ s.heap→VR W σ.nxt va ca→VR W σ.nxt vb cb→k va vb σ≠.bad→wpAny P.M A (g ca cb) (Post P fr env W σ s (k va vb σ)) NoE s) :
  wpAny P.M A ta (fun a s₁=>wpAny P.M A tb (fun b s₂=>wpAny P.M A (g a b) (Post P fr env W σ s ((fa σ).bind fun va σ₁=>(fb σ₁).bind fun vb σ₂=>k va vb σ₂)) NoE s₂)
   NoE s₁) NoE s:=by
 refine wpAny_mono (ha W σ s I L (Rs.bind_ne hne)) (fun ca s₁ ⟨va,σ₁,W₁,e₁,st₁,hva⟩=>?_) (fun e s' h=>h.elim)
 have r1:((fa σ).bind fun va σ₁=>(fb σ₁).bind fun vb σ₂=>k va vb σ₂)=(fb σ₁).bind fun vb σ₂=>k va vb σ₂:=Rs.bind_ok e₁
 rw [r1] at hne ⊢
 refine wpAny_mono (hb W₁ σ₁ s₁ st₁.inv st₁.loc (Rs.bind_ne hne)) (fun cb s₂ ⟨vb,σ₂,W₂,e₂,st₂,hvb⟩=>?_) (fun e s' h=>h.elim)
 have r2:((fb σ₁).bind fun vb σ₂=>k va vb σ₂)=k va vb σ₂:=Rs.bind_ok e₂
 rw [r2] at hne ⊢
 have st:=st₁.trans st₂
 exact wpAny_mono (hg W₂ σ₂ s₂ va vb ca cb st.inv st.loc (hva.mono st₂.nx.wle st₂.nx.le) hvb hne) (fun c s' h=>h.after st) fun e s' h=>h.after st
theorem zAl {sc:Scope} {a b:X} {op:Operator} {l r:Expr} {p:Pos} (ia:Snd P cx a sc (.e l)) (ib:Snd P cx b sc (.e r)):Snd P cx (.bin op a b) sc (.e (.BinOp l op r p)):=fun fr A env F S =>
 have key:OkE P fr A env (eval (.BinOp l op r p) env) (ev cx (.bin op a b)):=fun W σ s I L hne =>
  wpAny_BinOp (qTf (ia fr A env F S).1 (ib fr A env F S).1 I L hne fun W σ s va vb ca cb I L ha hb hne=>zFt I L ha hb hne)
 ⟨key,qL key fun _=>rfl⟩
theorem zAf {sc:Scope} {a:X} {x:Expr} {p:Pos} (ia:Snd P cx a sc (.e x)):Snd P cx (.neg a) sc (.e (.UnaryOp .USub x p)):=fun fr A env F S=>by
 have key:OkE P fr A env (eval (.UnaryOp .USub x p) env) (ev cx (.neg a)):=fun W σ s I L hne=>by
  refine wpAny_UnaryOp (qTg (ia fr A env F S).1 I L hne (fun e s' h=>h) fun v c W' σ' s' e st hv=>?_)
  have r:ev cx (.neg a) σ=(zDx v).st σ':=Rs.bind_ok e
  rw [r] at hne ⊢
  exact wpAny_mono (zDw st.inv st.loc hv hne) (fun c s' h=>h.after st) fun e s' h=>h.after st
 exact ⟨key,qL key fun _=>rfl⟩
end
section
variable {P:Par} {fr:List Nat} {A:Around} {env:Env} {W:Wd} {σ:St} {s:Shared} {cx:Cx}
theorem zHc {α β:Type} {ta tb:Sem Value} {fa fb:St→Rs V} {g:Value→Value→Sem α} {k:V→V→St→Rs β} {Q:α→Shared→Prop} {E:Value→Shared→Prop} (ha:OkE P fr A env ta fa) (hb:OkE P fr A env tb fb) (I:Inv P fr W σ.toHp s) (L:Loc P env W σ s.heap)
  (hne:((fa σ).bind fun va σ₁=>(fb σ₁).bind fun vb σ₂=>k va vb σ₂)≠.bad)
  (hE:∀ e s',NoE e s'→E e s')
  (hg:∀ W₂ σ₂ s₂ va vb ca cb,((fa σ).bind fun va σ₁=>(fb σ₁).bind fun vb σ₂=>k va vb σ₂)=k va vb σ₂→Step P fr env W σ s W₂ σ₂ s₂→VR W₂ σ₂.nxt va ca→VR W₂ σ₂.nxt vb cb→wpAny P.M A (g ca cb) Q E s₂) :
  wpAny P.M A ta (fun a s₁=>wpAny P.M A tb (fun b s₂=>wpAny P.M A (g a b) Q E s₂) E s₁) E s:=by
 refine wpAny_mono (ha W σ s I L (Rs.bind_ne hne)) (fun ca s₁ ⟨va,σ₁,W₁,e₁,st₁,hva⟩=>?_) (fun e s' h=>hE e s' h.elim)
 have r1:((fa σ).bind fun va σ₁=>(fb σ₁).bind fun vb σ₂=>k va vb σ₂)=(fb σ₁).bind fun vb σ₂=>k va vb σ₂:=Rs.bind_ok e₁
 rw [r1] at hne hg
 refine wpAny_mono (hb W₁ σ₁ s₁ st₁.inv st₁.loc (Rs.bind_ne hne)) (fun cb s₂ ⟨vb,σ₂,W₂,e₂,st₂,hvb⟩=>?_) (fun e s' h=>hE e s' h.elim)
 exact hg W₂ σ₂ s₂ va vb ca cb (Rs.bind_ok e₂) (st₁.trans st₂) (hva.mono st₂.nx.wle st₂.nx.le) hvb
theorem jR {f:St→Rs V} {v:V} {σ σ':St} (e:f σ=.ok v σ'):tr f σ=kO v σ':=Rs.bind_ok e
theorem qMj {f:St→Rs V} {σ:St} (e:tr f σ≠.bad):f σ≠.bad:=Rs.bind_ne e
theorem zE {v:V} {σ:St} {b:Bool} (h:zT σ.toHp v=some b):kO v σ=.ok b σ:=by unfold kO; rw [h]
theorem qGk {v:V} {σ:St} (h:kO v σ≠.bad):∃ b,zT σ.toHp v=some b:=by
 unfold kO at h
 split at h
 ·rename_i b hb; exact ⟨b,hb⟩
 ·exact absurd rfl h
theorem zLp {f:St→Rs V} {b:Bool} {σ σ':St} (e:tr f σ=.ok b σ'):∃ v,f σ=.ok v σ'∧zT σ'.toHp v=some b:=by
 cases hf:f σ with
 | ok v σ₁ =>
  rw [jR hf] at e
  obtain ⟨b',hb⟩:=qGk (v:=v) (σ:=σ₁) (by rw [e]; intro q; cases q)
  rw [zE hb] at e; cases e
  exact ⟨v,rfl,hb⟩
 | bad=>unfold tr at e; rw [hf] at e; cases e
theorem uX {t:Sem Bool} {f:St→Rs V} {Q:Bool→Shared→Prop} {E:Value→Shared→Prop} (h:OkB P fr A env t (tr f)) (I:Inv P fr W σ.toHp s) (L:Loc P env W σ s.heap) (hne:tr f σ≠.bad)
  (hQ:∀ b v σ' W' s',f σ=.ok v σ'→zT σ'.toHp v=some b→Step P fr env W σ s W' σ' s'→Q b s'):wpAny P.M A t Q E s:=by
 refine wpAny_mono (h W σ s I L hne) (fun b s' ⟨σ',W',e,st⟩=>?_) (fun ex s' h=>h.elim)
 ·obtain ⟨v,h1,h2⟩:=zLp e
  exact hQ b v σ' W' s' h1 h2 st
theorem zAe {sc:Scope} {a:X} {x:Expr} {p:Pos} (ia:Snd P cx a sc (.e x)):Snd P cx (.not a) sc (.e (.UnaryOp .Not x p)):=by
 intro fr A env F S
 have J:=ia fr A env F S
 have hev:∀ σ,ev cx (.not a) σ=(ev cx a σ).bind fun va σ₁=>match zT σ₁.toHp va with | some b=>.ok (.bool !b) σ₁ | Option.none=>.bad:=fun _=>rfl
 have tne:∀ σ,ev cx (.not a) σ≠.bad→tr (ev cx a) σ≠.bad:=fun σ h=>by
  rw [hev] at h
  cases hf:ev cx a σ with
  | ok v σ₁ =>
   rw [hf] at h
   rw [jR hf]
   intro q; apply h
   have hn:zT σ₁.toHp v=none:=by
    cases ht:zT σ₁.toHp v with
    | none=>rfl
    | some b=>rw [zE ht] at q; cases q
   show (match zT σ₁.toHp v with | some b=>Rs.ok (V.bool !b) σ₁ | Option.none=>.bad)=.bad
   rw [hn]
  | bad=>rw [hf] at h; exact absurd rfl h
 refine ⟨fun W σ s I L hne=>?_,fun W σ s I L hne=>?_⟩
 ·refine wpAny_UnaryOp (qTg J.1 I L hne (fun e s' h=>h) fun v c W' σ' s' e st hv=>?_)
  have r:ev cx (.not a) σ=(match zT σ'.toHp v with | some b=>.ok (.bool !b) σ' | Option.none=>.bad):=Rs.bind_ok e
  rw [r] at hne ⊢
  revert hne
  split <;> intro hne
  ·rename_i b hb
   exact not_of (truthy_ok st.inv hv hb fun t=>qN rfl (st.trans (Step.toks st.inv st.loc t)) (.bool _))
  ·exact absurd rfl hne
 ·refine isTrue_not (uX J.2 I L (tne σ (qMj hne)) fun b v σ' W' s' e hb st=>?_)
  have r:ev cx (.not a) σ=.ok (.bool !b) σ':=by rw [hev,Rs.bind_ok e,hb]
  exact ⟨σ',W',by rw [jR r]; rfl,st⟩
theorem qMk {g:V→St→Rs V} {r:Rs V}:(r.bind g).bind kO=r.bind fun v σ'=>(g v σ').bind kO:=by
 cases r <;> rfl
theorem zAk {sc:Scope} {a b:X} {op:CmpOp} {l r:Expr} {p:Pos} (ia:Snd P cx a sc (.e l)) (ib:Snd P cx b sc (.e r)) (h3:behindInMarks op r=false):Snd P cx (.cmp op a b) sc (.e (.Compare l [op] [r] p)):=by
 intro fr A env F S
 have Ja:=ia fr A env F S
 have Jb:=ib fr A env F S
 refine ⟨fun W σ s I L hne=>?_,fun W σ s I L hne=>?_⟩
 ·exact wpAny_Compare1 (qTf Ja.1 Jb.1 I L hne fun W σ s va vb ca cb I L ha hb hne=>qNx F I L ha hb hne) h3
 ·refine wpAny_isTrue_Compare1 ?_ h3
  have e2:tr (ev cx (.cmp op a b)) σ=(ev cx a σ).bind fun va σ₁=>(ev cx b σ₁).bind fun vb σ₂=>((wE σ₂.toHp op va vb).st σ₂).bind kO:=by
   show ((ev cx a σ).bind fun va σ₁=>(ev cx b σ₁).bind fun vb σ₂=>(wE σ₂.toHp op va vb).st σ₂).bind _=_
   rw [qMk]
   congr 1; funext va σ₁
   rw [qMk]
  rw [e2] at hne ⊢
  refine zHc Ja.1 Jb.1 I L hne (fun e s' h=>h) fun W₂ σ₂ s₂ va vb ca cb e st hva hvb=>?_
  rw [e] at hne ⊢
  refine wpAny_mono (qNx F st.inv st.loc hva hvb (Rs.bind_ne hne)) (fun c s' ⟨v,σ',W',e',st',hv⟩=>?_) (fun e s' h=>h.elim)
  rw [Rs.bind_ok e'] at hne ⊢
  obtain ⟨bb,hb⟩:=qGk hne
  exact truthy_ok st'.inv hv hb fun t=>⟨σ',W',zE hb,(st.trans st').trans (Step.toks st'.inv st'.loc t)⟩
theorem zS {β:Type} {t:Sem Value} {f:St→Rs V} {G:Value→Shared→Prop} {k:V→St→Rs β} {E:Value→Shared→Prop}
  (ht:OkE P fr A env t f) (I:Inv P fr W σ.toHp s) (L:Loc P env W σ s.heap) (hb:(f σ).bind k≠.bad)
  (hE:∀ e s',NoE e s'→E e s')
  (hg:∀ v c W' σ' s',f σ=.ok v σ'→Step P fr env W σ s W' σ' s'→VR W' σ'.nxt v c→G c s'):wpAny P.M A t G E s :=
 wpAny_mono (ht W σ s I L (Rs.bind_ne hb)) (fun c s' ⟨v,σ',W',e,st,hv⟩=>hg v c W' σ' s' e st hv) (fun e s' h=>hE e s' h.elim)
theorem qTe {β:Type} {ta tb:Sem Value} {fa fb:St→Rs V} {G:Value→Value→Shared→Prop} {k:V→V→St→Rs β} {E:Value→Shared→Prop} (ha:OkE P fr A env ta fa) (hb:OkE P fr A env tb fb) (I:Inv P fr W σ.toHp s) (L:Loc P env W σ s.heap)
  (hne:((fa σ).bind fun va σ₁=>(fb σ₁).bind fun vb σ₂=>k va vb σ₂)≠.bad)
  (hE:∀ e s',NoE e s'→E e s')
  (hg:∀ W₂ σ₂ s₂ va vb ca cb,((fa σ).bind fun va σ₁=>(fb σ₁).bind fun vb σ₂=>k va vb σ₂)=k va vb σ₂→Step P fr env W σ s W₂ σ₂ s₂→VR W₂ σ₂.nxt va ca→VR W₂ σ₂.nxt vb cb→G ca cb s₂) :
  wpAny P.M A ta (fun a s₁=>wpAny P.M A tb (fun b s₂=>G a b s₂) E s₁) E s:=by
 refine wpAny_mono (ha W σ s I L (Rs.bind_ne hne)) (fun ca s₁ ⟨va,σ₁,W₁,e₁,st₁,hva⟩=>?_) (fun e s' h=>hE e s' h.elim)
 have r1:((fa σ).bind fun va σ₁=>(fb σ₁).bind fun vb σ₂=>k va vb σ₂)=(fb σ₁).bind fun vb σ₂=>k va vb σ₂:=Rs.bind_ok e₁
 rw [r1] at hne hg
 refine wpAny_mono (hb W₁ σ₁ s₁ st₁.inv st₁.loc (Rs.bind_ne hne)) (fun cb s₂ ⟨vb,σ₂,W₂,e₂,st₂,hvb⟩=>?_) (fun e s' h=>hE e s' h.elim)
 exact hg W₂ σ₂ s₂ va vb ca cb (Rs.bind_ok e₂) (st₁.trans st₂) (hva.mono st₂.nx.wle st₂.nx.le) hvb
theorem uB {v:V} {σ:St} {t e:St→Rs V} (h:condR v σ t e≠.bad):(zT σ.toHp v=some true∧condR v σ t e=t σ)∨(zT σ.toHp v=some false∧condR v σ t e=e σ):=by
 unfold condR at h ⊢
 revert h
 split <;> intro h
 ·rename_i q; exact .inl ⟨q,rfl⟩
 ·rename_i q; exact .inr ⟨q,rfl⟩
 ·exact absurd rfl h
theorem zAh {sc:Scope} {c a b:X} {t x y:Expr} {p:Pos} (ic:Snd P cx c sc (.e t)) (ia:Snd P cx a sc (.e x)) (ib:Snd P cx b sc (.e y)):Snd P cx (.ite c a b) sc (.e (.IfExp t x y p)):=by
 intro fr A env F S
 have Jc:=ic fr A env F S
 have Ja:=ia fr A env F S
 have Jb:=ib fr A env F S
 have hev:∀ σ,ev cx (.ite c a b) σ=(ev cx c σ).bind fun vc σ₁=>condR vc σ₁ (ev cx a) (ev cx b):=fun _=>rfl
 have tne:∀ σ,ev cx (.ite c a b) σ≠.bad→tr (ev cx c) σ≠.bad:=fun σ h=>by
  rw [hev] at h
  cases hf:ev cx c σ with
  | ok v σ₁ =>
   rw [hf] at h
   rw [jR hf]
   rcases uB (h:condR v σ₁ _ _≠.bad) with ⟨q,_⟩ | ⟨q,_⟩ <;> rw [zE q] <;> intro q' <;> cases q'
  | bad=>rw [hf] at h; exact absurd rfl h
 have cnd:∀ {bb:Bool} {v:V} {σ':St},zT σ'.toHp v=some bb→condR v σ' (ev cx a) (ev cx b)=if bb then ev cx a σ' else ev cx b σ':=fun {bb v σ'} hb=>by
  unfold condR; rw [hb]; cases bb <;> rfl
 refine ⟨fun W σ s I L hne=>?_,fun W σ s I L hne=>?_⟩
 ·refine wpAny_IfExp (uX Jc.2 I L (tne σ hne) fun bb v σ' W' s' e hb st=>?_)
  rw [hev,Rs.bind_ok e,cnd hb] at hne ⊢
  cases bb with
  | true =>
   simp only [if_true] at hne ⊢
   exact wpAny_mono (Ja.1 W' σ' s' st.inv st.loc hne) (fun c s' h=>h.after st) fun e s' h=>h.after st
  | false =>
   simp only [Bool.false_eq_true,if_false] at hne ⊢
   exact wpAny_mono (Jb.1 W' σ' s' st.inv st.loc hne) (fun c s' h=>h.after st) fun e s' h=>h.after st
 ·refine isTrue_IfExp (uX Jc.2 I L (tne σ (qMj hne)) fun bb v σ' W' s' e hb st=>?_)
  have etr:tr (ev cx (.ite c a b)) σ=(if bb then ev cx a σ' else ev cx b σ').bind kO:=by
   show (ev cx (.ite c a b) σ).bind kO=_
   rw [hev,Rs.bind_ok e,cnd hb]
  rw [etr] at hne ⊢
  cases bb with
  | true =>
   simp only [if_true] at hne ⊢
   exact wpAny_mono (Ja.2 W' σ' s' st.inv st.loc hne) (fun c s' h=>h.after st) fun e s' h=>h.after st
  | false =>
   simp only [Bool.false_eq_true,if_false] at hne ⊢
   exact wpAny_mono (Jb.2 W' σ' s' st.inv st.loc hne) (fun c s' h=>h.after st) fun e s' h=>h.after st
theorem qYw {b:X} {sc:Scope} {es:List Expr} (ib:Snd P cx b sc (.ofAnd es)) (F:Fm P cx.lvl fr A env) (S:ScOk sc env) :
  es≠[]∧∀ pos whole,OkE P fr A env (eval (.BoolOp .And es pos) env) (ev cx b)∧OkB P fr A env (isTrue (.BoolOp .And es pos) env whole) (tr (ev cx b)):=by
 match es,ib with
 | [],ib=>exact ib fr A env F S
 | [e],ib =>
  have J:=ib fr A env F S
  refine ⟨by simp,fun pos whole=>⟨J.1,fun W σ s I L hne=>isTrue_and (wpAny_mono (J.2 W σ s I L hne) (fun b s' h=>?_) fun _ _ x=>x)⟩⟩
  cases b with
  | true=>exact isTrue_and_nil h
  | false=>exact h
 | e::e'::r,ib=>exact ib fr A env F S
theorem zBl {b:X} {sc:Scope} {es:List Expr} (ib:Snd P cx b sc (.ofOr es)) (F:Fm P cx.lvl fr A env) (S:ScOk sc env) :
  es≠[]∧∀ pos whole,OkE P fr A env (eval (.BoolOp .Or es pos) env) (ev cx b)∧OkB P fr A env (isTrue (.BoolOp .Or es pos) env whole) (tr (ev cx b)):=by
 match es,ib with
 | [],ib=>exact ib fr A env F S
 | [e],ib =>
  have J:=ib fr A env F S
  refine ⟨by simp,fun pos whole=>⟨J.1,fun W σ s I L hne=>isTrue_or (wpAny_mono (J.2 W σ s I L hne) (fun b s' h=>?_) fun _ _ x=>x)⟩⟩
  cases b with
  | true=>exact h
  | false=>exact isTrue_or_nil h
 | e::e'::r,ib=>exact ib fr A env F S
theorem qIw {a b:X} {sc:Scope} {e:Expr} {es:List Expr} (ia:Snd P cx a sc (.e e)) (ib:Snd P cx b sc (.ofAnd es)) (F:Fm P cx.lvl fr A env) (S:ScOk sc env) (pos:Pos) (whole:Sem Value) :
  OkE P fr A env (eval (.BoolOp .And (e::es) pos) env) (ev cx (.and a b))∧OkB P fr A env (isTrue (.BoolOp .And (e::es) pos) env whole) (tr (ev cx (.and a b))):=by
 have Ja:=ia fr A env F S
 obtain ⟨hn,Jb⟩:=qYw ib F S
 have hev:∀ σ,ev cx (.and a b) σ=(ev cx a σ).bind fun va σ₁=>condR va σ₁ (ev cx b) (fun σ₁=>.ok va σ₁):=fun _=>rfl
 have tne:∀ σ,ev cx (.and a b) σ≠.bad→tr (ev cx a) σ≠.bad:=fun σ h=>by
  rw [hev] at h
  cases hf:ev cx a σ with
  | ok v σ₁ =>
   rw [hf] at h
   rw [jR hf]
   rcases uB (h:condR v σ₁ _ _≠.bad) with ⟨q,_⟩ | ⟨q,_⟩ <;> rw [zE q] <;> intro q' <;> cases q'
  | bad=>rw [hf] at h; exact absurd rfl h
 match es,hn,Jb with
 | [],hn,_=>exact absurd rfl hn
 | e₂::r,_,Jb =>
  refine ⟨fun W σ s I L hne=>?_,fun W σ s I L hne=>?_⟩
  ·refine BoolOp_and (zS (k:=fun va σ₁=>condR va σ₁ (ev cx b) (fun σ₁=>.ok va σ₁)) Ja.1 I L hne (fun e s' h=>h) fun v c W' σ' s' e st hv=>?_)
   rw [hev,Rs.bind_ok e] at hne ⊢
   rcases uB hne with ⟨q,r⟩ | ⟨q,r⟩
   ·rw [r] at hne ⊢
    refine truthy_ok st.inv hv q fun t=>?_
    rw [if_pos rfl]
    have st':=st.trans (Step.toks st.inv st.loc t)
    exact wpAny_mono ((Jb pos whole).1 W' σ' _ st'.inv st'.loc hne) (fun c s' h=>h.after st') fun e s' h=>h.after st'
   ·rw [r]
    refine truthy_ok st.inv hv q fun t=>?_
    rw [if_neg (by decide)]
    exact qN rfl (st.trans (Step.toks st.inv st.loc t)) hv
  ·refine isTrue_and (uX Ja.2 I L (tne σ (qMj hne)) fun bb v σ' W' s' e hb st=>?_)
   cases bb with
   | true =>
    have etr:tr (ev cx (.and a b)) σ=tr (ev cx b) σ':=by
     show (ev cx (.and a b) σ).bind kO=_
     rw [hev,Rs.bind_ok e]
     unfold condR; rw [hb]; rfl
    rw [etr] at hne ⊢
    rw [if_pos rfl]
    exact wpAny_mono ((Jb pos whole).2 W' σ' s' st.inv st.loc hne) (fun c s' h=>h.after st) fun e s' h=>h.after st
   | false =>
    rw [if_neg (by decide)]
    refine ⟨σ',W',?_,st⟩
    have e1:ev cx (.and a b) σ=.ok v σ':=by rw [hev,Rs.bind_ok e]; unfold condR; rw [hb]
    rw [jR e1,zE hb]
theorem qMu {a b:X} {sc:Scope} {e:Expr} {es:List Expr} (ia:Snd P cx a sc (.e e)) (ib:Snd P cx b sc (.ofOr es)) (F:Fm P cx.lvl fr A env) (S:ScOk sc env) (pos:Pos) (whole:Sem Value) :
  OkE P fr A env (eval (.BoolOp .Or (e::es) pos) env) (ev cx (.or a b))∧OkB P fr A env (isTrue (.BoolOp .Or (e::es) pos) env whole) (tr (ev cx (.or a b))):=by
 have Ja:=ia fr A env F S
 obtain ⟨hn,Jb⟩:=zBl ib F S
 have hev:∀ σ,ev cx (.or a b) σ=(ev cx a σ).bind fun va σ₁=>condR va σ₁ (fun σ₁=>.ok va σ₁) (ev cx b):=fun _=>rfl
 have tne:∀ σ,ev cx (.or a b) σ≠.bad→tr (ev cx a) σ≠.bad:=fun σ h=>by
  rw [hev] at h
  cases hf:ev cx a σ with
  | ok v σ₁ =>
   rw [hf] at h
   rw [jR hf]
   rcases uB (h:condR v σ₁ _ _≠.bad) with ⟨q,_⟩ | ⟨q,_⟩ <;> rw [zE q] <;> intro q' <;> cases q'
  | bad=>rw [hf] at h; exact absurd rfl h
 match es,hn,Jb with
 | [],hn,_=>exact absurd rfl hn
 | e₂::r,_,Jb =>
  refine ⟨fun W σ s I L hne=>?_,fun W σ s I L hne=>?_⟩
  ·refine BoolOp_or (zS (k:=fun va σ₁=>condR va σ₁ (fun σ₁=>.ok va σ₁) (ev cx b)) Ja.1 I L hne (fun e s' h=>h) fun v c W' σ' s' e st hv=>?_)
   rw [hev,Rs.bind_ok e] at hne ⊢
   rcases uB hne with ⟨q,r⟩ | ⟨q,r⟩
   ·rw [r]
    refine truthy_ok st.inv hv q fun t=>?_
    rw [if_pos rfl]
    exact qN rfl (st.trans (Step.toks st.inv st.loc t)) hv
   ·rw [r] at hne ⊢
    refine truthy_ok st.inv hv q fun t=>?_
    rw [if_neg (by decide)]
    have st':=st.trans (Step.toks st.inv st.loc t)
    exact wpAny_mono ((Jb pos whole).1 W' σ' _ st'.inv st'.loc hne) (fun c s' h=>h.after st') fun e s' h=>h.after st'
  ·refine isTrue_or (uX Ja.2 I L (tne σ (qMj hne)) fun bb v σ' W' s' e hb st=>?_)
   cases bb with
   | false =>
    have etr:tr (ev cx (.or a b)) σ=tr (ev cx b) σ':=by
     show (ev cx (.or a b) σ).bind kO=_
     rw [hev,Rs.bind_ok e]
     unfold condR; rw [hb]; rfl
    rw [etr] at hne ⊢
    rw [if_neg (by decide)]
    exact wpAny_mono ((Jb pos whole).2 W' σ' s' st.inv st.loc hne) (fun c s' h=>h.after st) fun e s' h=>h.after st
   | true =>
    rw [if_pos rfl]
    refine ⟨σ',W',?_,st⟩
    have e1:ev cx (.or a b) σ=.ok v σ':=by rw [hev,Rs.bind_ok e]; unfold condR; rw [hb]
    rw [jR e1,zE hb]
theorem zAm {sc:Scope} {a b:X} {e:Expr} {es:List Expr} {p:Pos} (ia:Snd P cx a sc (.e e)) (ib:Snd P cx b sc (.ofAnd es)):Snd P cx (.and a b) sc (.e (.BoolOp .And (e::es) p)):=fun fr A env F S=>qIw ia ib F S p _
theorem qTz {sc:Scope} {a b:X} {e:Expr} {es:List Expr} (ia:Snd P cx a sc (.e e)) (ib:Snd P cx b sc (.ofAnd es)):Snd P cx (.and a b) sc (.an (e::es)):=fun fr A env F S=>⟨by simp,fun pos whole=>qIw ia ib F S pos whole⟩
theorem zHl {sc:Scope} {a b:X} {e:Expr} {es:List Expr} {p:Pos} (ia:Snd P cx a sc (.e e)) (ib:Snd P cx b sc (.ofOr es)):Snd P cx (.or a b) sc (.e (.BoolOp .Or (e::es) p)):=fun fr A env F S=>qMu ia ib F S p _
theorem zAd {sc:Scope} {a b:X} {e:Expr} {es:List Expr} (ia:Snd P cx a sc (.e e)) (ib:Snd P cx b sc (.ofOr es)):Snd P cx (.or a b) sc (.or (e::es)):=fun fr A env F S=>⟨by simp,fun pos whole=>qMu ia ib F S pos whole⟩
end
section
variable {P:Par} {fr:List Nat} {A:Around} {env:Env} {W:Wd} {σ:St} {s:Shared} {cx:Cx}
theorem zAj {sc:Scope} {a i:X} {v sl:Expr} {p:Pos} (ia:Snd P cx a sc (.e v)) (ii:Snd P cx i sc (.e sl)) (h3:qAt sl=false):Snd P cx (.idx a i) sc (.e (.Subscript v sl p)):=fun fr A env F S =>
 have key:OkE P fr A env (eval (.Subscript v sl p) env) (ev cx (.idx a i)):=fun W σ s I L hne =>
  Subscript_ (qTf (ia fr A env F S).1 (ii fr A env F S).1 I L hne fun W σ s va vb ca cb I L ha hb hne=>zEp I L ha hb hne h3)
 ⟨key,qL key fun _=>rfl⟩
theorem qMt {x:X} {sc:Scope} {o:Option Expr} (ix:Snd P cx x sc (.ofO o)) (F:Fm P cx.lvl fr A env) (S:ScOk sc env):OkE P fr A env (evalPart o env) (ev cx x):=by
 cases o with
 | none=>exact ix fr A env F S
 | some e=>exact (ix fr A env F S).1
theorem zAc {sc:Scope} {a lo hi:X} {v:Expr} {l u:Option Expr} {p p':Pos} (ia:Snd P cx a sc (.e v)) (il:Snd P cx lo sc (.ofO l)) (ih:Snd P cx hi sc (.ofO u)):Snd P cx (.slc a lo hi) sc (.e (.Subscript v (.Slice l u Option.none p') p)):=by
 intro fr A env F S
 have Ja:=ia fr A env F S
 have Jl:=qMt il F S
 have Jh:=qMt ih F S
 have key:OkE P fr A env (eval (.Subscript v (.Slice l u Option.none p') p) env) (ev cx (.slc a lo hi)):=fun W σ s I L hne=>by
  have hev:ev cx (.slc a lo hi) σ=(ev cx a σ).bind fun va σ₁=>(ev cx lo σ₁).bind fun vl σ₂=>(ev cx hi σ₂).bind fun vh σ₃=>(yA σ₃.toHp va vl vh).st σ₃:=rfl
  rw [hev] at hne ⊢
  refine Subscript_ (zS Ja.1 I L hne (fun e s' h=>h) fun va ca W₁ σ₁ s₁ e₁ st₁ hva=>?_)
  rw [Rs.bind_ok e₁] at hne ⊢
  refine wpAny_Slice (qTe Jl Jh st₁.inv st₁.loc hne (fun e s' h=>h.after st₁) fun W₃ σ₃ s₃ vl vh cl ch e₃ st₃ hvl hvh=>?_)
  rw [e₃] at hne ⊢
  have st:=st₁.trans st₃
  refine wpAny_pure (wpAny_mono (zAo st.inv st.loc (hva.mono st₃.nx.wle st₃.nx.le) hvl hvh hne) (fun c s' h=>h.after st) fun e s' h=>h.after st)
 exact ⟨key,qL key fun _=>rfl⟩
theorem qTy (C:CxOk P cx) {sc:Scope} {o:X} {f:Str} {e:Expr} {p:Pos} (io:Snd P cx o sc (.e e)) (h2:qCq e):Snd P cx (.attr o f) sc (.e (.Attribute e f p)):=by
 intro fr A env F S
 have Jo:=io fr A env F S
 have key:OkE P fr A env (eval (.Attribute e f p) env) (ev cx (.attr o f)):=fun W σ s I L hne=>by
  show wpAny P.M A (do
   let ov ← attributeBase e f env (eval e env)
   standAt p.atName
   let r ← holding [ov] (getAttr ov f true)
   letTemporaryGo e ov r
   pure r) _ _ s
  rw [h2]
  refine wpAny_bind (zS (k:=fun vo σ₁=>(cx.fld vo f σ₁.toHp).st σ₁) Jo.1 I L hne (fun e s' h=>h) fun vo co W₁ σ₁ s₁ e₁ st₁ hvo=>?_)
  have hev:ev cx (.attr o f) σ=(cx.fld vo f σ₁.toHp).st σ₁:=Rs.bind_ok e₁
  rw [hev] at hne ⊢
  refine wpAny_bind (wpAny_standAt (wpAny_bind (wpAny_holding (wpAny_mono (C.fld fr A env F W₁ σ₁ s₁ st₁.inv st₁.loc vo f co hvo hne) (fun c s' h=>?_) fun e s' h=>h.after st₁))))
  exact wpAny_bind (wpAny_letTemporaryGo (wpAny_pure (h.after st₁)))
 exact ⟨key,qL key fun _=>rfl⟩
theorem qCs {e:Expr} {r:List Expr} (h:∀ x p,e≠.Starred x p):starEach (e::r) env=(false,eval e env)::starEach r env:=by
 cases e <;> first | rfl | exact absurd rfl (h _ _)
theorem qHj {e:Expr} (h:yI e=false):∀ x p,e≠.Starred x p:=by
 rintro x p rfl
 cases h
theorem qMn {sc:Scope}:Snd P cx .nil sc (.es []):=fun fr A env F S pos=>⟨rfl,rfl,fun W σ s I L _=>Calls.spliced_nil ⟨_,σ,W,rfl,Step.refl I L,.nil⟩⟩
theorem qGx {sc:Scope} {a b:X} {e:Expr} {r:List Expr} (ia:Snd P cx a sc (.e e)) (ib:Snd P cx b sc (.es r)) (hs:yI e=false):Snd P cx (.cons a b) sc (.es (e::r)):=by
 intro fr A env F S
 have Ja:=ia fr A env F S
 have Jb:=ib fr A env F S
 intro pos
 have hst:=qCs (env:=env) (r:=r) (qHj hs)
 obtain ⟨q1,q2,Jb⟩:=Jb pos
 have hbt:backTo pos (starEach (e::r) env)=(false,eval e env)::backTo pos (starEach r env):=by rw [hst]; rfl
 rw [hbt]
 refine ⟨by simpa using q1,by simpa using q2,fun W σ s I L hne=>?_⟩
 have hev:wG (ev cx (.cons a b)) σ=(ev cx a σ).bind fun va σ₁=>(wG (ev cx b) σ₁).bind fun vs σ₂=>.ok (va::vs) σ₂:=by
  show ((ev cx a σ).bind fun va σ₁=>(ev cx b σ₁).bind fun vs σ₂=>kM vs σ₂ fun xs σ₂=>Rs.ok (V.list (va::xs)) σ₂).bind _=_
  cases ev cx a σ with
  | ok va σ₁ =>
   show ((ev cx b σ₁).bind _).bind _=((ev cx b σ₁).bind _).bind _
   cases ev cx b σ₁ with
   | ok vs σ₂=>cases vs <;> rfl
   | bad=>rfl
  | bad=>rfl
 rw [hev] at hne ⊢
 refine Calls.spliced_cons (zS Ja.1 I L hne (fun e s' h=>h) fun va ca W₁ σ₁ s₁ e₁ st₁ hva=>?_)
 rw [Rs.bind_ok e₁] at hne ⊢
 refine wpAny_mono (Jb W₁ σ₁ s₁ st₁.inv st₁.loc (Rs.bind_ne hne)) (fun cs s₂ ⟨vs,σ₂,W₂,e₂,st₂,hvs⟩=>?_) (fun e s' h=>h.elim)
 rw [Rs.bind_ok e₂]
 exact ⟨_,σ₂,W₂,rfl,st₁.trans st₂,.cons (hva.mono st₂.nx.wle st₂.nx.le) hvs⟩
theorem qSi {f:St→Rs V} {xs:List V} {σ σ':St} (h:wG f σ=.ok xs σ'):f σ=.ok (.list xs) σ':=by
 unfold wG at h
 cases hf:f σ with
 | ok v σ₁ =>
  rw [hf] at h
  have h':kM v σ₁ (fun xs σ'=>Rs.ok xs σ')=.ok xs σ':=h
  cases v <;> first | cases h' | skip
  rfl
 | bad=>rw [hf] at h; cases h
theorem kT {β:Type} {t:Sem (List Value)} {f:St→Rs V} {G:List Value→Shared→Prop} {k:List V→St→Rs β} {E:Value→Shared→Prop}
  (ht:OkL P fr A env t (wG f)) (I:Inv P fr W σ.toHp s) (L:Loc P env W σ s.heap) (hb:((f σ).bind fun v σ'=>kM v σ' k)≠.bad)
  (hE:∀ e s',NoE e s'→E e s')
  (hg:∀ xs cs W' σ' s',((f σ).bind fun v σ'=>kM v σ' k)=k xs σ'→Step P fr env W σ s W' σ' s'→VRs W' σ'.nxt xs cs→G cs s'):wpAny P.M A t G E s:=by
 have hne:wG f σ≠.bad:=by
  unfold wG
  cases hf:f σ with
  | ok v σ₁ =>
   rw [hf] at hb
   cases v <;> first | exact absurd rfl hb | (intro q; cases q)
  | bad=>rw [hf] at hb; exact absurd rfl hb
 exact wpAny_mono (ht W σ s I L hne) (fun cs s' ⟨xs,σ',W',e,st,hv⟩=>hg xs cs W' σ' s' (by rw [Rs.bind_ok (qSi e)]; rfl) st hv) (fun e s' h=>hE e s' h.elim)
theorem qAx {n:Nat} {r:Rs V} (h:fits n r≠.bad):n≤sizeLine∧fits n r=r:=by
 unfold fits at h ⊢
 split at h
 ·rename_i q; exact ⟨q,if_pos q⟩
 ·exact absurd rfl h
theorem qTt {sc:Scope} {es:X} {l:List Expr} {p:Pos} (ie:Snd P cx es sc (.es l)):Snd P cx (.list es) sc (.e (.List l p)):=by
 intro fr A env F S
 have Je:=(ie fr A env F S) p
 have key:OkE P fr A env (eval (.List l p) env) (ev cx (.list es)):=fun W σ s I L hne=>by
  refine List_ (kT (k:=fun xs σ₁=>fits xs.length (.ok (.list xs) σ₁)) Je.2.2 I L hne (fun e s' h=>h) fun xs cs W' σ' s' e st hv=>?_)
  have hev:ev cx (.list es) σ=fits xs.length (.ok (.list xs) σ'):=e
  rw [hev] at hne ⊢
  obtain ⟨hz,r⟩:=qAx hne
  rw [r]
  have hz':cs.length≤sizeLine:=by rw [hv.length]; exact hz
  exact wpAny_newObj_type (Post.after st (jF (items:=cs.toArray) st.inv st.loc (by simpa using hv) (by simpa using hz') rfl rfl rfl)) (by show cs.toArray.size≤sizeLine; rw [List.size_toArray]; exact hz')
 exact ⟨key,qL key fun _=>rfl⟩
theorem zAa {sc:Scope} {es:X} {l:List Expr} {kd:Nat} {p:Pos} (ie:Snd P cx es sc (.es l)):Snd P cx (.tup es) sc (.e (.Tuple l kd p)):=by
 intro fr A env F S
 have Je:=(ie fr A env F S) p
 have key:OkE P fr A env (eval (.Tuple l kd p) env) (ev cx (.tup es)):=fun W σ s I L hne=>by
  refine Tuple_ (kT (k:=fun xs σ₁=>fits xs.length (.ok (.tup xs) σ₁)) Je.2.2 I L hne (fun e s' h=>h) fun xs cs W' σ' s' e st hv=>?_)
  have hev:ev cx (.tup es) σ=fits xs.length (.ok (.tup xs) σ'):=e
  rw [hev] at hne ⊢
  obtain ⟨hz,r⟩:=qAx hne
  rw [r]
  have hz':cs.length≤sizeLine:=by rw [hv.length]; exact hz
  exact wpAny_newObj_type (Post.after st (qDs (items:=cs.toArray) st.inv st.loc (by simpa using hv) (by simpa using hz') rfl rfl rfl)) (by show cs.toArray.size≤sizeLine; rw [List.size_toArray]; exact hz')
 exact ⟨key,qL key fun _=>rfl⟩
theorem qTw (C:CxOk P cx) {sc:Scope} {f as:X} {n:Str} {np p:Pos} {l:List Expr} (jf:Snd P cx f sc (.e (.Name n np))) (ja:Snd P cx as sc (.es l)):Snd P cx (.call f as) sc (.e (.Call (.Name n np) l [] p)):=by
 intro fr A env F S
 have Jf:=jf fr A env F S
 have Ja:=(ja fr A env F S) p
 have key:OkE P fr A env (eval (.Call (.Name n np) l [] p) env) (ev cx (.call f as)):=fun W σ s I L hne=>by
  have hev:ev cx (.call f as) σ=(ev cx f σ).bind fun vf σ₁=>(ev cx as σ₁).bind fun vs σ₂=>kM vs σ₂ fun xs σ₂=>(cx.app vf xs σ₂.toHp).lift σ₂:=rfl
  rw [hev] at hne ⊢
  show wpAny P.M A (do callWith p (← eval (.Name n np) env) [] (backTo p (starEach l env)) []) _ _ s
  refine wpAny_bind (zS Jf.1 I L hne (fun e s' h=>h) fun vf cf W₁ σ₁ s₁ e₁ st₁ hvf=>?_)
  rw [Rs.bind_ok e₁] at hne ⊢
  refine xF Ja.1 (kT (k:=fun xs σ₂=>(cx.app vf xs σ₂.toHp).lift σ₂) Ja.2.2 st₁.inv st₁.loc hne (fun e s' h=>h.after st₁) fun xs cs W₂ σ₂ s₂ e₂ st₂ hvs=>?_)
  rw [e₂] at hne ⊢
  have st:=st₁.trans st₂
  obtain ⟨k1,k2⟩:=C.app fr A env F W₂ σ₂ s₂ st.inv st.loc vf xs cf cs (hvf.mono st₂.nx.wle st₂.nx.le) hvs hne
  exact ⟨k1,wpAny_mono k2 (fun c s' h=>h.after st) fun e s' h=>h.after st⟩
 exact ⟨key,qL key fun _=>rfl⟩
theorem qTs (C:CxOk P cx) {sc:Scope} {o as:X} {m:Str} {e:Expr} {apos p:Pos} {l:List Expr} (jo:Snd P cx o sc (.e e)) (ja:Snd P cx as sc (.es l)) (h3:qCq e) (h45:(decide (l.length < 30) && apos.endLine == p.line)=true):Snd P cx (.meth o m as) sc (.e (.Call (.Attribute e m apos) l [] p)):=by
 intro fr A env F S
 simp only [Bool.and_eq_true,decide_eq_true_eq,beq_iff_eq] at h45
 obtain ⟨h4,h5⟩:=h45
 have Jo:=jo fr A env F S
 have Ja:=(ja fr A env F S) p
 have key:OkE P fr A env (eval (.Call (.Attribute e m apos) l [] p) env) (ev cx (.meth o m as)):=fun W σ s I L hne=>by
  have hev:ev cx (.meth o m as) σ=(ev cx o σ).bind fun vo σ₁=>match cx.get vo m σ₁.toHp with
   | some (vf,first)=>(ev cx as σ₁).bind fun vs σ₂=>kM vs σ₂ fun xs σ₂=>(cx.app vf (first++xs) σ₂.toHp).lift σ₂
   | Option.none=>.bad:=rfl
  rw [hev] at hne ⊢
  have hform:methodCallForm (l.length+([]:List Keyword).length) (backTo p (starEach l env)) (backToKw p (keywordEach [] env))=true:=by
   unfold methodCallForm
   have q:(backTo p (starEach l env)).all (fun x=>!x.1)=true:=by
    rw [List.all_eq_true]
    intro x hx
    have:=List.any_eq_false.mp Ja.1 x hx
    simpa using this
   rw [q]
   show (true && true && decide (l.length+0+0 < 30))=true
   simpa using h4
  have hpos:methodCallPos true e env apos p=pure p:=by unfold methodCallPos; simp [h5]
  show wpAny P.M A (do
   let ov ← attributeBase e m env (eval e env)
   standAt apos.atName
   methodCall e m apos p env ov (l.length+([]:List Keyword).length) (backTo p (starEach l env)) (backToKw p (keywordEach [] env))) _ _ s
  rw [h3]
  refine wpAny_bind (zS Jo.1 I L hne (fun e s' h=>h) fun vo co W₁ σ₁ s₁ e₁ st₁ hvo=>wpAny_bind (wpAny_standAt ?_))
  rw [Rs.bind_ok e₁] at hne ⊢
  revert hne
  split <;> intro hne
  ·rename_i vf first hget
   unfold methodCall
   rw [hform]
   refine wpAny_bind (wpAny_holding (C.get fr A env F W₁ σ₁ s₁ st₁.inv st₁.loc vo m co vf first hvo hget _ _ _ fun r s₂ W₂ st₂ hf hfi=>?_))
   refine wpAny_bind (wpAny_of_eq hpos ?_)
   have st:=st₁.trans st₂
   refine xF Ja.1 (kT (k:=fun xs σ₂=>(cx.app vf (first++xs) σ₂.toHp).lift σ₂) Ja.2.2 st.inv st.loc hne (fun e s' h=>h.after st) fun xs cs W₃ σ₃ s₃ e₃ st₃ hvs=>?_)
   rw [e₃] at hne ⊢
   have st':=st.trans st₃
   obtain ⟨k1,k2⟩:=C.app fr A env F W₃ σ₃ s₃ st'.inv st'.loc vf (first++xs) r.1 (r.2++cs) (hf.mono st₃.nx.wle st₃.nx.le) ((hfi.mono st₃.nx.wle st₃.nx.le).append hvs) hne
   exact ⟨k1,wpAny_mono k2 (fun c s' h=>h.after st') fun e s' h=>h.after st'⟩
  ·exact absurd rfl hne
 exact ⟨key,qL key fun _=>rfl⟩
end
structure Out (P:Par) (fr:List Nat) (W:Wd) (n:Nat) (a:Nat):Prop where
 notB:P.B.get? a=none
 notFr:a ∉ fr
 notFz:W.fz a=none
 notOwn:∀ k,k < n→W.ρ k≠a
section
variable {P:Par} {fr:List Nat} {A:Around} {env:Env} {W W':Wd} {σ σ':St} {s s' s'':Shared} {cx:Cx}
theorem Out.new (I:Inv P fr W σ.toHp s) {a:Nat} (h:s.heap.get? a=none):Out P fr W σ.nxt a where
 notB:=by
  cases q:P.B.get? a with
  | none=>rfl
  | some o=>have:=I.keep _ _ q; rw [h] at this; cases this
 notFr:=fun hm=>by obtain ⟨o,e,_⟩:=(I.frB _ hm).2; rw [h] at e; cases e
 notFz:=by
  cases q:W.fz a with
  | none=>rfl
  | some o=>have:=(I.frz _ _ q).1; rw [h] at this; cases this
 notOwn:=fun k hk q=>by obtain ⟨o,e⟩:=I.live k hk; rw [q,h] at e; cases e
theorem Out.step {frx:List Nat} {L:Nat} {n n':Nat} {h h':Heap} {a:Nat} {o:Obj} (x:Out P fr W n a) (e:h.get? a=some o) (nx:Nx frx L W n h W' n' h'):Out P fr W' n' a where
 notB:=x.notB
 notFr:=x.notFr
 notFz:=by
  cases q:W'.fz a with
  | none=>rfl
  | some c =>
   rcases nx.fzn a c q with r | r
   ·rw [x.notFz] at r; cases r
   ·rw [e] at r; cases r
 notOwn:=fun k hk q=>by
  by_cases hn:k < n
  ·rw [nx.wle.ρ k hn] at q; exact x.notOwn k hn q
  ·have:=nx.new k (Nat.not_lt.mp hn) hk; rw [q,e] at this; cases this
theorem Inv.outside (I:Inv P fr W σ.toHp s) {a:Nat} (x:Out P fr W σ.nxt a) (hk:∀ b o,b≠a→s.heap.get? b=some o→s'.heap.get? b=some o) (hg:s'.gens=s.gens) (ho:s'.os=s.os):Inv P fr W σ.toHp s' where
 keep:=fun b o e=>hk b o (by rintro rfl; rw [x.notB] at e; cases e) (I.keep b o e)
 old:=I.old
 live:=fun k h=>let ⟨o,e⟩:=I.live k h; ⟨o,hk _ _ (x.notOwn k h) e⟩
 nofr:=I.nofr
 nofz:=I.nofz
 inj:=I.inj
 obj:=fun k o e=>let ⟨p,c,b,d⟩:=I.obj k o e; ⟨p,c,hk _ _ (x.notOwn k p) b,d⟩
 frz:=fun b c e=>⟨hk _ _ (by rintro rfl; rw [x.notFz] at e; cases e) (I.frz b c e).1,(I.frz b c e).2⟩
 frB:=fun b h=>⟨(I.frB b h).1,let ⟨o,e,d⟩:=(I.frB b h).2; ⟨o,hk _ _ (by rintro rfl; exact x.notFr h) e,d⟩⟩
 gens:=hg.trans I.gens
 os:=ho.trans I.os
 exc:=I.exc
 tab0:=I.tab0
theorem Step.aside (st:Step P fr env W σ s W' σ' s') (hL:env.locals∈fr) {a:Nat} (hn:s.heap.get? a=none) (x:Out P fr W' σ'.nxt a) (hk:∀ b o,b≠a→s'.heap.get? b=some o→s''.heap.get? b=some o) (hg:s''.gens=s'.gens) (ho:s''.os=s'.os) :
  Step P fr env W σ s W' σ' s'':=by
 refine ⟨⟨st.nx.wle,st.nx.le,fun b o e=>?_,st.nx.new,st.nx.fzn,fun b o e h1 h0 h2=>?_,fun b o h1 h2 e=>?_⟩,st.inv.outside x hk hg ho,?_⟩
 ·obtain ⟨o',e'⟩:=st.nx.live b o e
  exact ⟨o',hk b o' (by rintro rfl; rw [hn] at e; cases e) e'⟩
 ·exact hk b o (by rintro rfl; rw [hn] at e; cases e) (st.nx.ext b o e h1 h0 h2)
 ·obtain ⟨o',e',d'⟩:=st.nx.fext b o h1 h2 e
  exact ⟨o',hk b o' (by rintro rfl; rw [hn] at e; cases e) e',d'⟩
 ·obtain ⟨m,q1,q2⟩:=st.loc.loc
  obtain ⟨oL,es,ep,e1,r⟩:=q1
  exact ⟨st.loc.kind,st.loc.glob,st.loc.bns,⟨m,⟨oL,es,ep,hk _ _ (by rintro rfl; exact x.notFr hL) e1,r⟩,q2⟩,st.loc.cel,st.loc.cod⟩
theorem Inv.weaken {C:Nat} (I:Inv P (C::fr) W σ.toHp s):Inv P fr W σ.toHp s :=
 ⟨I.keep,I.old,I.live,fun k h q=>I.nofr k h (.tail _ q),I.nofz,I.inj,I.obj,fun a c e=>⟨(I.frz a c e).1,fun q=>(I.frz a c e).2 (.tail _ q)⟩,fun a h=>I.frB a (.tail _ h),I.gens,I.os,I.exc,I.tab0⟩
theorem Inv.under (I:Inv P fr W σ.toHp s) {C:Nat} {o:Obj} (x:Out P fr W σ.nxt C) (e:s.heap.get? C=some o) (hd:∀ vs,o.data≠.fields vs):Inv P (C::fr) W σ.toHp s where
 keep:=I.keep
 old:=I.old
 live:=I.live
 nofr:=fun k h q=>by
  rcases List.mem_cons.mp q with q | q
  ·exact x.notOwn k h q
  ·exact I.nofr k h q
 nofz:=I.nofz
 inj:=I.inj
 obj:=I.obj
 frz:=fun a c h=>⟨(I.frz a c h).1,fun q=>by
  rcases List.mem_cons.mp q with q | q
  ·subst q; rw [x.notFz] at h; cases h
  ·exact (I.frz a c h).2 q⟩
 frB:=fun a h=>by
  rcases List.mem_cons.mp h with q | q
  ·subst q; exact ⟨x.notB,o,e,hd⟩
  ·exact I.frB a q
 gens:=I.gens
 os:=I.os
 exc:=I.exc
 tab0:=I.tab0
theorem Step.inner {C:Nat} {cenv:Env} {W'':Wd} {σ₁ σ₂:St} (st:Step P fr env W σ s W' σ' s') (hL:env.locals∈fr) (hn:s.heap.get? C=none) (hC:cenv.locals=C) (hLC:C≠env.locals) (he:σ₁.toHp=σ'.toHp)
  (r:Step P (C::fr) cenv W' σ₁ s' W'' σ₂ s''):Step P fr env W σ s W'' { σ' with toHp:=σ₂.toHp } s'':=by
 have hnx:σ₁.nxt=σ'.nxt:=congrArg Hp.nxt he
 have hz:σ'.nxt≤σ₂.nxt:=hnx ▸ r.nx.le
 have wl:Wle σ'.nxt W' W'':=hnx ▸ r.nx.wle
 refine ⟨⟨st.nx.wle.trans st.nx.le wl,Nat.le_trans st.nx.le hz,fun b o e=>?_,fun k h1 h2=>?_,fun a c e=>?_,fun b o e h1 h0 h2=>?_,fun b o h1 h2 e=>?_⟩,Inv.weaken (σ:=σ₂) r.inv,?_⟩
 ·obtain ⟨o',e'⟩:=st.nx.live b o e; exact r.nx.live b o' e'
 ·by_cases hk:k < σ'.nxt
  ·rw [wl.ρ k hk]; exact st.nx.new k h1 hk
  ·cases q:s.heap.get? (W''.ρ k) with
   | none=>rfl
   | some o=>obtain ⟨o',e'⟩:=st.nx.live _ _ q; rw [r.nx.new k (by rw [hnx]; exact Nat.not_lt.mp hk) h2] at e'; cases e'
 ·rcases r.nx.fzn a c e with q | q
  ·exact st.nx.fzn a c q
  ·right
   cases hq:s.heap.get? a with
   | none=>rfl
   | some o=>obtain ⟨o',e'⟩:=st.nx.live _ _ hq; rw [q] at e'; cases e'
 ·have e1:=st.nx.ext b o e h1 h0 h2
  refine r.nx.ext b o e1 (by rw [hC]; rintro rfl; rw [hn] at e; cases e) (fun hm=>by
   rcases List.mem_cons.mp hm with q | q
   ·subst q; rw [hn] at e; cases e
   ·exact h0 q) fun k hk q=>?_
  rw [hnx] at hk
  by_cases hkn:k < σ.nxt
  ·rw [st.nx.wle.ρ k hkn] at q; exact h2 k hkn q
  ·have:=st.nx.new k (Nat.not_lt.mp hkn) hk; rw [q,e] at this; cases this
 ·obtain ⟨o',e',d'⟩:=st.nx.fext b o h1 h2 e
  obtain ⟨o'',e'',d''⟩:=r.nx.fext b o' (.tail _ h1) (by rw [hC]; rintro rfl; rw [hn] at e; cases e) e'
  exact ⟨o'',e'',d''.trans d'⟩
 ·obtain ⟨m,q1,q2⟩:=st.loc.loc
  obtain ⟨oL,es,ep,e1,dd,rr⟩:=q1
  obtain ⟨oL',e2,d2⟩:=r.nx.fext _ _ (.tail _ hL) (by rw [hC]; exact Ne.symm hLC) e1
  exact ⟨st.loc.kind,st.loc.glob,st.loc.bns,⟨m,⟨oL',es,ep,e2,d2.trans dd,rr⟩,fun x v h=>let ⟨p,c,q,rv⟩:=q2 x v h; ⟨p,c,q,rv.mono wl hz⟩⟩,
   fun x k h=>let ⟨p,q⟩:=st.loc.cel x k h; ⟨Nat.lt_of_lt_of_le p hz,fun hk=>by rw [wl.ρ k p]; exact q hk⟩,
   fun k q h=>let ⟨p,r⟩:=st.loc.cod k q h; ⟨Nat.lt_of_lt_of_le p hz,by rw [wl.ρ k p]; exact r⟩⟩
theorem Step.freezeLate (st:Step P fr env W σ s W' σ' s') {a:Nat} {o:Obj} (hn:s.heap.get? a=none) (e:s'.heap.get? a=some o) (x:Out P fr W' σ'.nxt a):Step P fr env W σ s (W'.freeze a o) σ' s':=by
 have fe:∀ b,(W'.freeze a o).fz b=if b=a then some o else W'.fz b:=fun _=>rfl
 have hfz:∀ b c,W'.fz b=some c→(W'.freeze a o).fz b=some c:=fun b c h=>by
  rw [fe,if_neg]; exact h
  rintro rfl; rw [x.notFz] at h; cases h
 have wl:Wle σ'.nxt W' (W'.freeze a o):=⟨fun _ _=>rfl,hfz⟩
 have J:=st.inv
 refine ⟨⟨st.nx.wle.trans st.nx.le wl,st.nx.le,st.nx.live,st.nx.new,fun b c h=>?_,st.nx.ext,st.nx.fext⟩,⟨J.keep,J.old,J.live,J.nofr,fun k h=>?_,J.inj,fun k o' h=>?_,fun b c h=>?_,J.frB,J.gens,J.os,fun e o h=>wl.fz _ _ (J.exc e o h),J.tab0⟩,?_⟩
 ·rw [fe] at h
  by_cases hb:b=a
  ·subst hb; exact .inr hn
  ·rw [if_neg hb] at h; exact st.nx.fzn b c h
 ·show (if W'.ρ k=a then some o else W'.fz (W'.ρ k))=none
  rw [if_neg (x.notOwn k h)]; exact J.nofz k h
 ·obtain ⟨p,c,b,d⟩:=J.obj k o' h; exact ⟨p,c,b,d.mono wl (Nat.le_refl _)⟩
 ·rw [fe] at h
  by_cases hb:b=a
  ·subst hb; rw [if_pos rfl] at h; cases h; exact ⟨e,x.notFr⟩
  ·rw [if_neg hb] at h; exact J.frz b c h
 ·have J':=st.loc
  exact ⟨J'.kind,J'.glob,J'.bns,let ⟨m,a,b⟩:=J'.loc; ⟨m,a,fun x v h=>let ⟨p,c,q,r⟩:=b x v h; ⟨p,c,q,r.mono wl (Nat.le_refl _)⟩⟩,J'.cel,J'.cod⟩
inductive ItAt (W:Wd) (n:Nat) (h:Heap) (I:Nat):V→Nat→Prop
 | list {v:V} {a:Nat} {i:Nat}:VR W n v (.ref a)→(∀ H,xL H v=qM H v)→h.IsListIter I a i→ItAt W n h I v i
 | tup {xs:List V} {a:Nat} {i:Nat}:VR W n (.tup xs) (.ref a)→h.IsTupleIter I a i→ItAt W n h I (.tup xs) i
 | rng {a b c:Int} {i:Nat}:IsRangeIter h I (a+(i:Int) * c) (Builtin.Range.rangeSize a b c - (i:Int)) c→ItAt W n h I (.rng a b c) i
theorem ItAt.mono {n n':Nat} {h h':Heap} {I:Nat} {v:V} {i:Nat} (x:ItAt W n h I v i) (wl:Wle n W W') (hn:n≤n') (hk:∀ o,h.get? I=some o→h'.get? I=some o):ItAt W' n' h' I v i:=by
 cases x with
 | list a b c=>exact .list (a.mono wl hn) b (let ⟨o,e,r⟩:=c; ⟨o,hk _ e,r⟩)
 | tup a c=>exact .tup (a.mono wl hn) (let ⟨o,e,r⟩:=c; ⟨o,hk _ e,r⟩)
 | rng a=>exact .rng (hk _ a)
theorem ItAt.there {n:Nat} {h:Heap} {I:Nat} {v:V} {i:Nat} (x:ItAt W n h I v i):∃ o,h.get? I=some o:=by
 cases x with
 | list a b c=>obtain ⟨o,e,_⟩:=c; exact ⟨o,e⟩
 | tup _ c=>obtain ⟨o,e,_⟩:=c; exact ⟨o,e⟩
 | rng a=>exact ⟨_,a⟩
theorem qBv {E:Value→Shared→Prop} (I:Inv P fr W σ.toHp s) {v:V} {c:Value} {xs:List V} (hv:VR W σ.nxt v c) (e:xL σ.toHp v=some xs) {Q:Value→Shared→Prop}
  (hq:∀ ob,ItAt W σ.nxt (s.heap.push ob) s.heap.objs.size v 0→Q (.ref s.heap.objs.size) { s with heap:=s.heap.push ob }):wpAny P.M A (pyIter c) Q E s:=by
 have key:qM σ.toHp v=some xs→(∀ H,xL H v=qM H v)→wpAny P.M A (pyIter c) Q E s:=fun h1 h2=>by
  obtain ⟨a,items,rfl,hl,_,_⟩:=zV I hv h1
  exact wpAny_pyIter_list hl (hq _ (.list hv h2 ⟨_,Heap.get?_push_size _ rfl,rfl,rfl⟩))
 cases hv with
 | @rng _ a b c _ _ _ hf hs =>
  refine wpAny_pyIter_range (I.frz _ _ hf).1 hs (hq _ (.rng ?_))
  have e1:a+((0:Nat):Int) * c=a:=by simp
  have e2:Builtin.Range.rangeSize a b c - ((0:Nat):Int)=Builtin.Range.rangeSize a b c:=by simp
  rw [e1,e2]
  exact Heap.get?_push_size _ rfl
 | tup h1 h2 h3 h4 h5 =>
  exact wpAny_pyIter_tuple ⟨_,(I.frz _ _ h1).1,h2,_,h3⟩ (hq _ (.tup (.tup h1 h2 h3 h4 h5) ⟨_,Heap.get?_push_size _ rfl,rfl,rfl⟩))
 | list=>exact key e fun _=>rfl
 | ref=>exact key e fun _=>rfl
 | _=>cases e
theorem qKz {E:Value→Shared→Prop} {v:V} {n i Ia:Nat} (x:ItAt W n s.heap Ia v i) {Q:Value→Shared→Prop} (hq:Q (.ref Ia) s):wpAny P.M A (pyIter (.ref Ia)) Q E s:=by
 cases x with
 | list a b c=>exact wpAny_pyIter_listiter c hq
 | tup _ c=>exact wpAny_pyIter_tupleiter c hq
 | rng a=>exact wpAny_pyIter_rangeiter a hq
theorem qDv {E:Value→Shared→Prop} (I:Inv P fr W σ.toHp s) {v:V} {xs:List V} {i Ia:Nat} {x:V} (hi:ItAt W σ.nxt s.heap Ia v i) (e:xL σ.toHp v=some xs) (hx:xs[i]? = some x) {Q:Option Value→Shared→Prop}
  (hq:∀ c h' t,VR W σ.nxt x c→ItAt W σ.nxt h' Ia v (i+1)→Heap.SameBut Ia s.heap h'→Q (some c) { s with heap:=h',toks:=t }):wpAny P.M A (pyNext (.ref Ia)) Q E s:=by
 cases hi with
 | list a b c =>
  have h1:qM σ.toHp v=some xs:=(b _).symm.trans e
  obtain ⟨l,items,q,hl,hr,hz⟩:=zV I a h1
  cases q
  obtain ⟨cx,g1,g2⟩:=hr.get hx
  exact wpAny_pyNext_list_item c hl (by rw [← Array.getElem?_toList]; exact g1) fun h' hit hs=>hq cx h' s.toks g2 (.list a b hit) hs
 | tup a c =>
  cases e
  obtain ⟨t,o,items,n0,q,h1,h2,h3,h4⟩:=qJe I a
  cases q
  obtain ⟨cx,g1,g2⟩:=h4.get hx
  exact wpAny_pyNext_tuple_item c ⟨o,h1,h2,n0,h3⟩ (by rw [← Array.getElem?_toList]; exact g1) fun h' hit hs=>hq cx h' s.toks g2 (.tup a hit) hs
 | @rng a b c _ r =>
  cases e
  rw [List.getElem?_map] at hx
  obtain ⟨j,h1,rfl⟩:=Option.map_eq_some_iff.mp hx
  have h2:i < (Builtin.Range.rangeSize a b c).toNat:=by
   have:=(List.getElem?_eq_some_iff.mp h1).1
   simpa using this
  have h3:j=i:=by
   rw [List.getElem?_range h2] at h1; cases h1; rfl
  subst h3
  refine wpAny_pyNext_range_item r (by lia) fun h' hit hs=>hq _ h' _ (.int _ _) (.rng ?_) hs
  have e1:a+((j+1:Nat):Int) * c=a+(j:Int) * c+c:=by push_cast; rw [Int.add_mul,Int.one_mul,Int.add_assoc]
  have e2:Builtin.Range.rangeSize a b c - ((j+1:Nat):Int)=Builtin.Range.rangeSize a b c - (j:Int) - 1:=by push_cast; lia
  rw [e1,e2]
  exact hit
theorem qHt {E:Value→Shared→Prop} (F:A.handled=none) (I:Inv P fr W σ.toHp s) {v:V} {xs:List V} {i Ia:Nat} (hi:ItAt W σ.nxt s.heap Ia v i) (e:xL σ.toHp v=some xs) (hx:xs[i]? = none) {Q:Option Value→Shared→Prop}
  (hq:∀ h',Heap.ExtBut Ia s.heap h'→Q none { s with heap:=h' }):wpAny P.M A (pyNext (.ref Ia)) Q E s:=by
 cases hi with
 | list a b c =>
  have h1:qM σ.toHp v=some xs:=(b _).symm.trans e
  obtain ⟨l,items,q,hl,hr,hz⟩:=zV I a h1
  cases q
  refine wpAny_pyNext_list_end F c hl ?_ hq
  rw [Array.getElem?_eq_none_iff]
  have:=hr.length
  rw [Array.length_toList] at this
  have:=List.getElem?_eq_none_iff.mp hx
  lia
 | tup a c =>
  cases e
  obtain ⟨t,o,items,n0,q,h1,h2,h3,h4⟩:=qJe I a
  cases q
  refine wpAny_pyNext_tuple_end F c ⟨o,h1,h2,n0,h3⟩ ?_ hq
  rw [Array.getElem?_eq_none_iff]
  have:=h4.length
  rw [Array.length_toList] at this
  have:=List.getElem?_eq_none_iff.mp hx
  lia
 | @rng a b c _ r =>
  cases e
  refine wpAny_pyNext_range_end F r ?_ hq
  have:=List.getElem?_eq_none_iff.mp hx
  simp only [List.length_map,List.length_range] at this
  lia
end
noncomputable def vR (env:Env):List (Str×NameKind)→List (Str×Addr)→List (Str×Addr)
 | [],cs=>cs
 | (n,k)::r,cs=>vR env r (if k == .free then (n,(env.cells.lookup n).getD 0)::cs else cs)
theorem qCh {env:Env} {scope:Scope} (h:∀ n,(n,NameKind.free)∈scope.names→∃ a,env.cells.lookup n=some a):closureFor scope env=pure (vR env scope.names []):=by
 have key:∀ (l:List (Str×NameKind)) (cs:List (Str×Addr)),(∀ n,(n,NameKind.free)∈l→∃ a,env.cells.lookup n=some a) →
   (forIn l cs fun (x:Str×NameKind) (cs:List (Str×Addr))=>(if x.2 == NameKind.free then do let a ← cellOf env x.1; pure (ForInStep.yield ((x.1,a)::cs)) else pure (ForInStep.yield cs):Sem (ForInStep (List (Str×Addr)))))=pure (vR env l cs):=by
  intro l
  induction l with
  | nil=>intro cs _; rfl
  | cons p r ih =>
   intro cs hl
   obtain ⟨n,k⟩:=p
   rw [List.forIn_cons]
   by_cases hk:(k == NameKind.free)=true
   ·have hk':k=.free:=by simpa using hk
    subst hk'
    obtain ⟨a,ha⟩:=hl n (.head _)
    simp only [hk,if_true,vR]
    have hc:cellOf env n=pure a:=by unfold cellOf; rw [ha]
    rw [hc,pure_bind,pure_bind]
    rw [ha]
    exact ih _ fun m hm=>hl m (.tail _ hm)
   ·simp only [hk,vR]
    exact ih _ fun m hm=>hl m (.tail _ hm)
 unfold closureFor
 refine (congrArg (· >>= _) (Eq.trans ?_ (key scope.names [] h))).trans ?_
 ·congr 1
 ·rfl
theorem xB {env:Env} {x:Str} {a:Addr} (ha:env.cells.lookup x=some a):∀ (l:List (Str×NameKind)) (cs:List (Str×Addr)),((x,NameKind.free)∈l∨cs.lookup x=some a)→(cs.lookup x=none∨cs.lookup x=some a)→(vR env l cs).lookup x=some a
 | [],cs,h,_=>h.elim (fun q=>nomatch q) id
 | (n,k)::r,cs,h,h2=>by
  unfold vR
  by_cases hk:(k == NameKind.free)=true
  ·rw [if_pos hk]
   have hk':k=.free:=by simpa using hk
   subst hk'
   by_cases hx:x=n
   ·subst hx
    refine xB ha r _ (.inr ?_) (.inr ?_) <;> simp [List.lookup,ha]
   ·have hb:(x == n)=false:=by simpa using hx
    refine xB ha r _ ?_ ?_
    ·rcases h with h | h
     ·left
      rcases List.mem_cons.mp h with q | q
      ·cases q; exact absurd rfl hx
      ·exact q
     ·right; simp only [List.lookup,hb]; exact h
    ·simp only [List.lookup,hb]; exact h2
  ·rw [if_neg hk]
   refine xB ha r cs ?_ h2
   rcases h with h | h
   ·left
    rcases List.mem_cons.mp h with q | q
    ·cases q; exact absurd rfl hk
    ·exact q
   ·exact .inr h
theorem kW (env:Env) (x:Str):∀ names:List (Str×NameKind),(names.map fun (n,k)=>if (k == NameKind.free && env.scope.kind == .function && env.kindOf n == some .cell) then (n,NameKind.cell) else (n,k)).lookup x
  = (names.lookup x).map fun k=>if (k == NameKind.free && env.scope.kind == .function && env.kindOf x == some .cell) then NameKind.cell else k
 | []=>rfl
 | (n,k)::r=>by
  show List.lookup x ((if (k == NameKind.free && env.scope.kind == .function && env.kindOf n == some .cell)=true then (n,NameKind.cell) else (n,k))::_)=_
  by_cases hx:(x == n)=true
  ·have hx':x=n:=by simpa using hx
   subst hx'
   by_cases hc:(k == NameKind.free && env.scope.kind == .function && env.kindOf x == some .cell)=true
   ·rw [if_pos hc]; simp only [List.lookup,hx,Option.map_some,if_pos hc]
   ·rw [if_neg hc]; simp only [List.lookup,hx,Option.map_some,if_neg hc]
  ·have hb:(x == n)=false:=by simpa using hx
   have ih:=kW env x r
   by_cases hc:(k == NameKind.free && env.scope.kind == .function && env.kindOf n == some .cell)=true
   ·rw [if_pos hc]; simp only [List.lookup,hb]; exact ih
   ·rw [if_neg hc]; simp only [List.lookup,hb]; exact ih
theorem qR {β:Type} {x:Str} {b:β}:∀ {l:List (Str×β)},l.lookup x=some b→(x,b)∈l
 | (y,c)::r,h=>by
  by_cases hx:(x == y)=true
  ·have hx':x=y:=by simpa using hx
   subst hx'
   simp [List.lookup] at h; subst h; exact .head _
  ·have hb:(x == y)=false:=by simpa using hx
   simp only [List.lookup,hb] at h
   exact .tail _ (qR h)
theorem qMv {e:Expr} {env:Env} (h:jI e=false) (x:Value):foldedSetIterable e env x=pure x:=by
 cases e <;> first | rfl | cases h
structure ScopeOk (x:Str) (sc cs:Scope):Prop where
 kind:cs.kind=.function
 loc:cs.names.lookup x=some .local
 nocell:∀ p∈cs.names,p.2≠.cell
 locs:∀ p∈cs.names,p.2=.local→cs.names.lookup p.1=some .local
 free:∀ n,(n,NameKind.free)∈cs.names→sc.names.lookup n=some .cell∨sc.names.lookup n=some .free
theorem qMp {x:Str} {sc cs:Scope} (h:jE x sc cs=true):ScopeOk x sc cs:=by
 unfold jE at h
 simp only [Bool.and_eq_true,beq_iff_eq,List.all_eq_true] at h
 obtain ⟨⟨h1,h2⟩,h3⟩:=h
 refine ⟨h1,h2,fun p hp q=>?_,fun p hp q=>?_,fun n hn=>?_⟩
 ·have:=(h3 p hp).1.1; rw [q] at this; cases this
 ·have:=(h3 p hp).1.2; rw [q] at this; simpa using this
 ·have:=(h3 _ hn).2; simpa using this
section
variable {P:Par} {fr:List Nat} {A:Around} {env:Env} {W:Wd} {σ:St} {s:Shared} {cx:Cx}
theorem qPt {x:Str} {sc cs:Scope} (S:ScOk sc env) (O:ScopeOk x sc cs) (C:Nat):ScOk cs (compEnvC cs (vR env cs.names []) C env):=by
 have hk:∀ y,(compEnvC cs (vR env cs.names []) C env).kindOf y=(cs.names.lookup y).map fun k=>if (k == NameKind.free && env.scope.kind == .function && env.kindOf y == some .cell) then NameKind.cell else k:=fun y=>kW env y cs.names
 refine ⟨fun y h=>?_,fun y h=>?_,fun y h=>?_,fun y h=>absurd rfl (O.nocell _ (qR h)),fun y h=>?_⟩
 ·rw [hk,h]; rfl
 ·rw [hk,h]; rfl
 ·rw [hk]
  rcases h with h | h
  ·exact absurd rfl (O.nocell _ (qR h))
  ·rw [h]
   simp only [Option.map_some]
   split <;> simp
 ·rw [hk] at h
  have hf:cs.names.lookup y=some .free:=by
   cases hl:cs.names.lookup y with
   | none=>rw [hl] at h; simp at h
   | some k =>
    have hnc:=O.nocell _ (qR hl)
    rw [hl] at h
    simp only [Option.map_some,Option.some.injEq] at h
    by_cases hc:(k == NameKind.free && env.scope.kind == .function && env.kindOf y == some .cell)=true
    ·have:k=.free:=by simp only [Bool.and_eq_true,beq_iff_eq] at hc; exact hc.1.1
     rw [this]
    ·rw [if_neg hc] at h
     rcases h with h | h
     ·exact absurd h hnc
     ·rw [h]
  have hm:=qR hf
  obtain ⟨a,ha⟩:=S.has y (S.cel y (O.free y hm))
  exact ⟨a,xB ha _ _ (.inl hm) (.inl rfl)⟩
theorem qVw {x:Str} {sc cs:Scope} (S:ScOk sc env) (O:ScopeOk x sc cs) {C:Nat} {h:Heap} {m:Str→Option Value} {v:V} {c:Value} (L:Loc P env W σ h) (hn:h.Ns C m) (hm:m x=some c) (hv:VR W σ.nxt v c) :
  Loc P (compEnvC cs (vR env cs.names []) C env) W { σ with loc:=[(x,v)],tbl:=none } h:=by
 have hk:∀ y,(compEnvC cs (vR env cs.names []) C env).kindOf y=(cs.names.lookup y).map fun k=>if (k == NameKind.free && env.scope.kind == .function && env.kindOf y == some .cell) then NameKind.cell else k:=fun y=>kW env y cs.names
 refine ⟨O.kind,L.glob,L.bns,⟨m,hn,fun y u hy=>?_⟩,fun y k hy=>?_,fun k q h=>by cases h⟩
 ·have hy':List.lookup y [(x,v)]=some u:=hy
  by_cases hx:(y == x)=true
  ·have:y=x:=by simpa using hx
   subst this
   simp [List.lookup] at hy'; subst hy'
   exact ⟨by rw [hk,O.loc]; rfl,c,hm,hv⟩
  ·have hb:(y == x)=false:=by simpa using hx
   simp [List.lookup,hb] at hy'
 ·obtain ⟨p,q⟩:=L.cel y k hy
  refine ⟨p,fun hc=>?_⟩
  have hf:cs.names.lookup y=some .free:=by
   rw [hk] at hc
   cases hl:cs.names.lookup y with
   | none=>rw [hl] at hc; simp at hc
   | some k =>
    have hnc:=O.nocell _ (qR hl)
    rw [hl] at hc
    simp only [Option.map_some,Option.some.injEq] at hc
    by_cases hb:(k == NameKind.free && env.scope.kind == .function && env.kindOf y == some .cell)=true
    ·have:k=.free:=by simp only [Bool.and_eq_true,beq_iff_eq] at hb; exact hb.1.1
     rw [this]
    ·rw [if_neg hb] at hc
     rcases hc with hc | hc
     ·exact absurd hc hnc
     ·rw [hc]
  have hm:=qR hf
  have ha:=q (S.cel y (O.free y hm))
  exact xB ha _ _ (.inl hm) (.inl rfl)
theorem qOi {v:V} {all:List V} {f:V→St→Rs (Option V)} {l:List V} {σ:St} {r:List V} {σ':St} (h:turns v all f l σ=.ok r σ'):xL σ.toHp v=some all:=by
 cases l <;> (unfold turns at h; split at h) <;> first | assumption | cases h
theorem qOh {v:V} {all:List V} {f:V→St→Rs (Option V)} {σ:St} {r:List V} {σ':St} (h:turns v all f [] σ=.ok r σ'):r=[]∧σ'=σ:=by
 unfold turns at h; split at h <;> cases h; exact ⟨rfl,rfl⟩
theorem qJd {v:V} {all:List V} {f:V→St→Rs (Option V)} {x:V} {l:List V} {σ:St} {r:List V} {σ':St} (h:turns v all f (x::l) σ=.ok r σ') :
  ∃ o σ₁ vs,f x σ=.ok o σ₁∧turns v all f l σ₁=.ok vs σ'∧r=o.toList++vs:=by
 unfold turns at h
 split at h
 ·split at h
  ·rename_i o σ₁ hf
   cases ht:turns v all f l σ₁ with
   | ok vs σ₂=>rw [ht] at h; cases h; exact ⟨o,σ₁,vs,hf,ht,rfl⟩
   | bad=>rw [ht] at h; cases h
  ·cases h
 ·cases h
theorem qGi {v:V} {all:List V} {f:V→St→Rs (Option V)}:∀ {l:List V} {σ:St},turns v all f l σ≠.bad→∃ r σ',turns v all f l σ=.ok r σ'
 | [],σ,h=>by
  unfold turns at h ⊢
  split at h
  ·rename_i q; exact ⟨[],σ,by rw [if_pos q]⟩
  ·exact absurd rfl h
 | x::l,σ,h=>by
  unfold turns at h ⊢
  split at h
  ·rename_i q
   rw [if_pos q]
   split at h
   ·rename_i o σ₁ hf
    have hn:turns v all f l σ₁≠.bad:=by intro q; rw [q] at h; exact absurd rfl h
    obtain ⟨r,σ',e⟩:=qGi hn
    exact ⟨_,σ',by rw [e]; rfl⟩
   ·exact absurd rfl h
  ·exact absurd rfl h
theorem qTi {cond:X} {cs:Scope} {ifs:List Expr} {cenv:Env} {frC:List Nat} (ic:Snd P cx cond cs (.ofCond ifs)) (F:Fm P cx.lvl frC A cenv) (S:ScOk cs cenv) {b:V} {σ σ':St} {W:Wd} {s:Shared} (I:Inv P frC W σ.toHp s) (L:Loc P cenv W σ s.heap) (e:ev cx cond σ=.ok b σ') {bb:Bool} (hb:zT σ'.toHp b=some bb)
  {Q:Bool→Shared→Prop} {E:Value→Shared→Prop} (hq:∀ W' s',Step P frC cenv W σ s W' σ' s'→Q bb s') :
  wpAny P.M A (forIn ifs true fun c r=>if r=true then do let ok ← isTrue c cenv (eval c cenv); pure (ForInStep.yield ok) else pure (ForInStep.yield r)) Q E s:=by
 match ifs,ic with
 | [],ic =>
  obtain ⟨_,q⟩:=ic frC A cenv F S
  rw [q] at e; cases e
  cases hb
  exact wpAny_pure (hq W s (Step.refl I L))
 | [c],ic =>
  have J:=(ic frC A cenv F S).2
  have e2:tr (ev cx cond) σ=.ok bb σ':=by rw [jR e,zE hb]
  rw [List.forIn_cons]
  refine wpAny_bind ?_
  simp only [if_true]
  refine wpAny_bind (wpAny_mono (J W σ s I L (by rw [e2]; intro q; cases q)) (fun b' s' ⟨σ'',W',e3,st⟩=>?_) (fun x s' h=>h.elim))
  rw [e2] at e3; cases e3
  exact wpAny_pure (wpAny_pure (hq W' s' st))
 | _::_::_,ic=>exact absurd (ic frC A cenv F S).1 (by simp)
theorem uL {E:Value→Shared→Prop} {D:Nat} {ys:Array Value} {n:Nat} {x:Value} {Q:Value→Shared→Prop} (hl:s.heap.get? D=some (listOf ys n))
  (hQ:∀ h' n',h'.get? D=some (listOf (ys.push x) n')→Heap.SameBut D s.heap h'→Q .none { s with heap:=h' }) (hsz:ys.size≤sizeLine) :
  wpAny P.M A (call (.builtin "list.append") [.ref D,x]) Q E s:=by
 have hL:s.heap.IsList D ys:=⟨_,hl,rfl,_,rfl⟩
 refine wpAny_call_entry slot_list_append hL.typeIs entry_list_append ?_ (args_list_append _ _)
 show wpAny _ _ (updateSeq D (·.push x) >>= fun _=>ret .none) _ _ s
 refine wpAny_bind (wpAny_updateSeq hl rfl (wpAny_pure ⟨.none,rfl,hQ _ _ (Heap.get?_update_self _ hl rfl) (Heap.SameBut.update ..)⟩))
noncomputable def qCg (cx:Cx) (elt:X) (x:Str) (cond:X) (cel:List (Str×Nat)) (v:V) (σ:St):Rs (Option V) :=
 (ev cx cond { σ with loc:=[(x,v)],cel:=cel,tbl:=none }).bind fun b σ₃=>qAc b σ₃ (ev cx elt)
theorem qYe {elt:X} {x:Str} {cond:X} {cel:List (Str×Nat)} {v:V} {σ:St} {o:Option V} {σ':St} (h:qCg cx elt x cond cel v σ=.ok o σ') :
  ∃ b σ₁,ev cx cond { σ with loc:=[(x,v)],cel:=cel,tbl:=none }=.ok b σ₁∧((zT σ₁.toHp b=some true∧∃ r,ev cx elt σ₁=.ok r σ'∧o=some r)∨(zT σ₁.toHp b=some false∧o=none∧σ'=σ₁)):=by
 unfold qCg at h
 cases he:ev cx cond { σ with loc:=[(x,v)],cel:=cel,tbl:=none } with
 | ok b σ₁ =>
  rw [he] at h
  have h':qAc b σ₁ (ev cx elt)=.ok o σ':=h
  refine ⟨b,σ₁,rfl,?_⟩
  unfold qAc at h'
  split at h'
  ·rename_i q
   cases hr:ev cx elt σ₁ with
   | ok r σ₂=>rw [hr] at h'; cases h'; exact .inl ⟨q,r,rfl,rfl⟩
   | bad=>rw [hr] at h'; cases h'
  ·rename_i q; cases h'; exact .inr ⟨q,rfl,rfl⟩
  ·cases h'
 | bad=>rw [he] at h; cases h
structure CompInv (P:Par) (fr:List Nat) (env:Env) (W₁:Wd) (σ₁:St) (s₁:Shared) (vi:V) (I D C:Nat) (i:Nat) (acc:List V) (W:Wd) (σ:St) (s:Shared):Prop where
 st:Step P fr env W₁ σ₁ s₁ W { σ₁ with toHp:=σ.toHp } s
 oI:Out P fr W σ.nxt I
 oD:Out P fr W σ.nxt D
 oC:Out P fr W σ.nxt C
 it:ItAt W σ.nxt s.heap I vi i
 ac:∃ ys n,s.heap.get? D=some (listOf ys n)∧VRs W σ.nxt acc ys.toList
 ns:∃ m,s.heap.Ns C m
theorem CompInv.aside {W₁:Wd} {σ₁:St} {s₁:Shared} {vi:V} {I D C j:Nat} {acc:List V} {W:Wd} {σ:St} {s:Shared} (J:CompInv P fr env W₁ σ₁ s₁ vi I D C j acc W σ s) (hL:env.locals∈fr) (nI:s₁.heap.get? I=none) (hID:I≠D) (hIC:I≠C) {h':Heap} {t:Nat} {j':Nat}
  (hs:Heap.SameBut I s.heap h') (hit:ItAt W σ.nxt h' I vi j'):CompInv P fr env W₁ σ₁ s₁ vi I D C j' acc W σ { s with heap:=h',toks:=t }:=by
 obtain ⟨ys,nl,q1,q2⟩:=J.ac
 obtain ⟨m,hm⟩:=J.ns
 exact ⟨J.st.aside hL nI J.oI (fun b o hb e=>(hs.2 b hb).trans e) rfl rfl,J.oI,J.oD,J.oC,hit,⟨ys,nl,(hs.2 D (Ne.symm hID)).trans q1,q2⟩,m,hm.sameBut hs (Ne.symm hIC)⟩
theorem CompInv.names {W₁:Wd} {σ₁:St} {s₁:Shared} {vi:V} {I D C j:Nat} {acc:List V} {W:Wd} {σ:St} {s:Shared} (J:CompInv P fr env W₁ σ₁ s₁ vi I D C j acc W σ s) (hL:env.locals∈fr) (nC:s₁.heap.get? C=none) (hDC:D≠C) (hIC:I≠C) {h':Heap} {t:Nat}
  (hs:Heap.SameBut C s.heap h') {m:Str→Option Value} (hm:h'.Ns C m):CompInv P fr env W₁ σ₁ s₁ vi I D C j acc W σ { s with heap:=h',toks:=t }:=by
 obtain ⟨ys,nl,q1,q2⟩:=J.ac
 exact ⟨J.st.aside hL nC J.oC (fun b o hb e=>(hs.2 b hb).trans e) rfl rfl,J.oI,J.oD,J.oC,J.it.mono (.refl ..) (Nat.le_refl _) fun o e=>(hs.2 I hIC).trans e,⟨ys,nl,(hs.2 D hDC).trans q1,q2⟩,m,hm⟩
theorem CompInv.inner {W₁:Wd} {σ₁:St} {s₁:Shared} {vi:V} {I D C j:Nat} {acc:List V} {W:Wd} {σ:St} {s:Shared} (J:CompInv P fr env W₁ σ₁ s₁ vi I D C j acc W σ s) (hL:env.locals∈fr) (nC:s₁.heap.get? C=none) (hDC:D≠C) (hIC:I≠C) {cenv:Env} (hc:cenv.locals=C)
  {l:List (Str×V)} {cl:List (Str×Nat)} {tb:Option (Nat×Str)} {W':Wd} {σ':St} {s':Shared} (st:Step P (C::fr) cenv W { σ with loc:=l,cel:=cl,tbl:=tb } s W' σ' s'):CompInv P fr env W₁ σ₁ s₁ vi I D C j acc W' σ' s':=by
 have hLC:C≠env.locals:=fun q=>J.oC.notFr (q ▸ hL)
 obtain ⟨ys,nl,q1,q2⟩:=J.ac
 obtain ⟨oI,eI⟩:=J.it.there
 obtain ⟨m,oN,es,ep,eN,_⟩:=J.ns
 have keep:∀ {a:Nat} {ob:Obj},s.heap.get? a=some ob→a≠C→Out P fr W σ.nxt a→s'.heap.get? a=some ob:=fun {a ob} e hne x=>st.nx.ext a ob e (fun q=>hne (q.trans hc)) (fun hm=>(List.mem_cons.mp hm).elim hne x.notFr) x.notOwn
 exact ⟨Step.inner (σ':={ σ₁ with toHp:=σ.toHp }) (σ₁:={ σ with loc:=l,cel:=cl,tbl:=tb }) J.st hL nC hc hLC rfl st,J.oI.step eI st.nx,J.oD.step q1 st.nx,J.oC.step eN st.nx,J.it.mono st.nx.wle st.nx.le fun o e=>keep e hIC J.oI,
  ⟨ys,nl,keep q1 hDC J.oD,q2.mono st.nx.wle st.nx.le⟩,let ⟨m,a,_⟩:=st.loc.loc; ⟨m,hc ▸ a⟩⟩
theorem qRw (hh:A.handled=none) {elt cond:X} {x:Str} {sc cs:Scope} {e i:Expr} {ifs:List Expr} {yp p:Pos} (ie:Snd P cx elt cs (.e e)) (ic:Snd P cx cond cs (.ofCond ifs)) (F:Fm P cx.lvl fr A env) (S:ScOk sc env) (O:ScopeOk x sc cs)
  {W₁:Wd} {σ₁:St} {s₁:Shared} {vi:V} {xs:List V} {I D C:Nat} (nI:s₁.heap.get? I=none) (nD:s₁.heap.get? D=none) (nC:s₁.heap.get? C=none) (hID:I≠D) (hIC:I≠C) (hDC:D≠C)
  {total:List V} {σf:St} (hsz:total.length≤sizeLine) {R:Result→Shared→Prop}
  (hR:∀ W s,Step P fr env W₁ σ₁ s₁ W { σ₁ with toHp:=σf.toHp } s→Out P fr W σf.nxt D→Out P fr W σf.nxt C→(∃ ys n,s.heap.get? D=some (listOf ys n)∧VRs W σf.nxt total ys.toList)→(∃ m,s.heap.Ns C m)→R (.ok .next) s)
  {W:Wd} {σ:St} {s:Shared} {acc rest:List V} {j:Nat} (hj:j≤xs.length) (J:CompInv P fr env W₁ σ₁ s₁ vi I D C j acc W σ s) (ht:turns vi xs (qCg cx elt x cond σ₁.cel) (xs.drop j) σ=.ok rest σf) (hacc:acc++rest=total) :
  codeAny P.M A (.compLoop (.ListComp e [⟨.Name x yp,i,ifs,0⟩] cs p) 0 (.ref I) (.ref D) (compEnvC cs (vR env cs.names []) C env)) R s:=by
 have SC:=qPt S O C
 have FC:Fm P cx.lvl (C::fr) A (compEnvC cs (vR env cs.names []) C env):=⟨.head _,F.handled,F.units,F.depth,let ⟨l,a,b⟩:=F.frames; ⟨l,a,fun e he=>let ⟨p,L,q,r⟩:=b e he; ⟨p,L,q,.tail _ r⟩⟩⟩
 refine codeAny_compLoop_tests (fun n s=>∃ W σ acc rest j,n=xs.length+1 - j∧j≤xs.length∧CompInv P fr env W₁ σ₁ s₁ vi I D C j acc W σ s∧turns vi xs (qCg cx elt x cond σ₁.cel) (xs.drop j) σ=.ok rest σf∧acc++rest=total) ?_ _ ⟨W,σ,acc,rest,j,rfl,hj,J,ht,hacc⟩
 clear J ht hacc hj W σ s acc rest j
 rintro n s ⟨W,σ,acc,rest,j,rfl,hj,J,ht,hacc⟩
 have hits:=qOi ht
 cases hx:xs[j]? with
 | none =>
  rw [List.drop_of_length_le (List.getElem?_eq_none_iff.mp hx)] at ht
  obtain ⟨rfl,rfl⟩:=qOh ht
  refine qHt hh (σ:=σf) J.st.inv J.it hits hx fun h' hk=>?_
  obtain ⟨ys,nl,q1,q2⟩:=J.ac
  obtain ⟨m,oN,es,ep,q3,q4⟩:=J.ns
  refine hR W _ (J.st.aside F.hL nI J.oI (fun b o hb e=>hk b o hb e) rfl rfl) J.oD J.oC ⟨ys,nl,hk _ _ (Ne.symm hID) q1,?_⟩ ⟨m,oN,es,ep,hk _ _ (Ne.symm hIC) q3,q4⟩
  rw [← hacc,List.append_nil]; exact q2
 | some v =>
  obtain ⟨hlt,hv⟩:=List.getElem?_eq_some_iff.mp hx
  rw [List.drop_eq_getElem_cons hlt,hv] at ht
  obtain ⟨o,σ₂,vs,hf,ht',rfl⟩:=qJd ht
  obtain ⟨b,σ₃,hb,hcase⟩:=qYe hf
  have hn1:xs.length+1 - (j+1) < xs.length+1 - j:=Nat.sub_lt_sub_left (Nat.lt_succ_of_lt hlt) (Nat.lt_succ_self j)
  refine qDv (σ:=σ) J.st.inv J.it hits hx fun c h₁ t₁ hvc hit hs₁=>?_
  have J₁:=J.aside (t:=t₁) F.hL nI hID hIC hs₁ hit
  clear J
  obtain ⟨m,hm⟩:=J₁.ns
  refine wpAny_assign_Name (wpAny_storeName_local (env:=compEnvC cs (vR env cs.names []) C env) (SC.loc x O.loc) hm (fun h₂ hn₂ hs₂=>?_) (by show (cs.kind == .class || (cs.kind == .module && C != env.globals))=false; rw [O.kind]; rfl))
  have hn₂':h₂.Ns C (fun y=>if y=x then some c else m y):=hn₂
  have J₂:=J₁.names (t:=t₁+1) F.hL nC hDC hIC hs₂ hn₂'
  clear J₁ hm hn₂
  obtain ⟨oN,eN,dN⟩:∃ o,h₂.get? C=some o∧∀ vs,o.data≠.fields vs:=let ⟨o,_,_,e,d,_⟩:=hn₂'; ⟨o,e,fun vs q=>by rw [d] at q; cases q⟩
  refine qTi (frC:=C::fr) ic FC SC (σ:={ σ with loc:=[(x,v)],cel:=σ₁.cel,tbl:=none }) (Inv.under (σ:=σ) J₂.st.inv J₂.oC eN dN) (qVw (σ:={ σ₁ with toHp:=σ.toHp }) S O J₂.st.loc hn₂' (by simp) hvc) hb (bb:=o.isSome) ?_ fun W₃ s₃ st₃=>?_
  ·rcases hcase with ⟨q,r,_,rfl⟩ | ⟨q,rfl,_⟩
   ·exact q
   ·exact q
  have J₃:=J₂.inner F.hL nC hDC hIC rfl st₃
  clear J₂
  rcases hcase with ⟨q,r,hr,rfl⟩ | ⟨q,rfl,rfl⟩
  ·rw [if_pos (show (some r).isSome=true from rfl)]
   refine wpAny_mono ((ie (C::fr) A _ FC SC).1 W₃ σ₃ s₃ st₃.inv st₃.loc (by rw [hr]; intro q; cases q)) (fun cr s₄ ⟨v',σ',W₄,e₄,st₄,hv₄⟩=>?_) (fun ee s' h=>h.elim)
   rw [hr] at e₄; cases e₄
   have J₄:=J₃.inner (l:=σ₃.loc) (cl:=σ₃.cel) (tb:=σ₃.tbl) F.hL nC hDC hIC rfl st₄
   clear J₃
   obtain ⟨ys,nl,q1,q2⟩:=J₄.ac
   obtain ⟨m₄,hm₄⟩:=J₄.ns
   have hlen:ys.size≤sizeLine:=by
    rw [← Array.length_toList,q2.length]
    refine Nat.le_trans ?_ hsz
    rw [← hacc,List.length_append]; exact Nat.le_add_right _ _
   refine uL q1 (fun h₅ n₅ q5 hs₅=>?_) hlen
   refine ⟨xs.length+1 - (j+1),hn1,W₄,σ₂,acc++[r],vs,j+1,rfl,hlt,⟨J₄.st.aside F.hL nD J₄.oD (fun b o hb e=>(hs₅.2 b hb).trans e) rfl rfl,J₄.oI,J₄.oD,J₄.oC,J₄.it.mono (.refl ..) (Nat.le_refl _) fun o e=>(hs₅.2 I hID).trans e,⟨_,_,q5,?_⟩,⟨m₄,hm₄.sameBut hs₅ (Ne.symm hDC)⟩⟩,ht',by rw [List.append_assoc]; exact hacc⟩
   rw [Array.toList_push]; exact q2.append (.cons hv₄ .nil)
  ·rw [if_neg (show ¬ (none:Option V).isSome=true from Bool.false_ne_true)]
   exact ⟨xs.length+1 - (j+1),hn1,W₃,_,acc,vs,j+1,rfl,hlt,J₃,ht',hacc⟩
structure Raw (P:Par) (fr:List Nat) (env:Env) (W:Wd) (σ:St) (s:Shared) (xs:List V) (σ':St) (a:Nat) (W':Wd) (s':Shared):Prop where
 st:Step P fr env W σ s W' σ' s'
 new:s.heap.get? a=none
 out:Out P fr W' σ'.nxt a
 at_:∃ ys n,s'.heap.get? a=some (listOf ys n)∧VRs W' σ'.nxt xs ys.toList
 sz:xs.length≤sizeLine
theorem Raw.frozen {xs:List V} {σ':St} {a:Nat} {W':Wd} {s':Shared} (R:Raw P fr env W σ s xs σ' a W' s'):Post P fr env W σ s (.ok (.list xs) σ') (.ref a) s':=by
 obtain ⟨ys,n,q1,q2⟩:=R.at_
 have st3:=R.st.freezeLate R.new q1 R.out
 have hlen:ys.size≤sizeLine:=by
  have:=q2.length
  rw [Array.length_toList] at this
  have:=R.sz
  lia
 have wl:Wle σ'.nxt W' (W'.freeze a (listOf ys n)):=⟨fun _ _=>rfl,fun b c e=>by
  show (if b=a then _ else _)=_
  rw [if_neg]; exact e
  rintro rfl; rw [R.out.notFz] at e; cases e⟩
 refine ⟨_,_,_,rfl,st3,.list (o:=listOf ys n) (items:=ys) (e:=n) ?_ rfl rfl hlen (q2.mono wl (Nat.le_refl _)) rfl⟩
 show (if a=a then _ else _)=_
 rw [if_pos rfl]
structure CompEnd (P:Par) (fr:List Nat) (env:Env) (W:Wd) (σ:St) (s:Shared) (xs:List V) (σ':St) (a C:Nat) (W':Wd) (s':Shared):Prop where
 raw:Raw P fr env W σ s xs σ' a W' s'
 newC:s.heap.get? C=none
 outC:Out P fr W' σ'.nxt C
 ne:a≠C
 ns:∃ m,s'.heap.Ns C m
theorem CompEnd.go {xs:List V} {σ':St} {a C:Nat} {W':Wd} {s':Shared} (R:CompEnd P fr env W σ s xs σ' a C W' s') (F:Fm P cx.lvl fr A env) {h':Heap} (hs:Heap.SameBut C s'.heap h'):Raw P fr env W σ s xs σ' a W' { s' with heap:=h' }:=by
 obtain ⟨ys,n,q1,q2⟩:=R.raw.at_
 exact ⟨R.raw.st.aside F.hL R.newC R.outC (fun b o hb e=>(hs.2 b hb).trans e) rfl rfl,R.raw.new,R.raw.out,⟨ys,n,(hs.2 _ R.ne).trans q1,q2⟩,R.raw.sz⟩
theorem qEf {elt it cond:X} {x:Str} {σ:St} (hne:ev cx (.comp elt x it cond) σ≠.bad):cx.calm=false:=by
 cases h:cx.calm with
 | false=>rfl
 | true=>exact absurd (if_pos h) hne
theorem qNw {elt it cond:X} {x:Str} {σ:St} (h:cx.calm=false):ev cx (.comp elt x it cond) σ=(ev cx it σ).bind fun vi σ₁=>match xL σ₁.toHp vi with
  | some xs=>(turns vi xs (qCg cx elt x cond σ₁.cel) xs σ₁).bind fun vs σ₂=>fits vs.length (.ok (.list vs) { σ₁ with toHp:=σ₂.toHp })
  | Option.none=>.bad:=if_neg (by rw [h]; decide)
theorem uS (CC:CxOk P cx) {elt it cond:X} {x:Str} {sc cs:Scope} {e i:Expr} {ifs:List Expr} {yp p:Pos} (ie:Snd P cx elt cs (.e e)) (ii:Snd P cx it sc (.e i)) (ic:Snd P cx cond cs (.ofCond ifs)) (F:Fm P cx.lvl fr A env) (S:ScOk sc env) (O:ScopeOk x sc cs)
  (h1:jI i=false) (I:Inv P fr W σ.toHp s) (L:Loc P env W σ s.heap) (hne:ev cx (.comp elt x it cond) σ≠.bad)
  {use:Option (Value→Sem Unit)} {Q:Value→Shared→Prop} {E:Value→Shared→Prop} (hE:∀ e s',NoE e s'→E e s')
  (hfin:∀ xs σ' a C W' s',ev cx (.comp elt x it cond) σ=.ok (.list xs) σ'→CompEnd P fr env W σ s xs σ' a C W' s'→compPost P.M A E use Q (.ref a) C (.ok .next) s') {cpos:Pos} :
  wpAny P.M A (comprehension (.ListComp e [⟨.Name x yp,i,ifs,0⟩] cs p) cs env cpos (newList []) false (eval i env) use) Q E s:=by
 have Ji:=ii fr A env F S
 have hclos:closureFor cs env=pure (vR env cs.names []):=qCh fun n hn=>S.has n (S.cel n (O.free n hn))
 have hcm:cx.calm=false:=qEf hne
 have hh:A.handled=none:=F.handled.plain (CC.cal hcm)
 have hev:ev cx (.comp elt x it cond) σ=(ev cx it σ).bind fun vi σ₁=>match xL σ₁.toHp vi with
  | some xs=>(turns vi xs (qCg cx elt x cond σ₁.cel) xs σ₁).bind fun vs σ₂=>fits vs.length (.ok (.list vs) { σ₁ with toHp:=σ₂.toHp })
  | Option.none=>.bad:=qNw hcm
 rw [hev] at hne hfin
 refine wpAny_comprehension_free rfl (qMv h1) hclos O.kind O.locs (zS Ji.1 I L hne hE fun vi ci W₁ σ₁ s₁ e₁ st₁ hvi=>?_)
 rw [Rs.bind_ok e₁] at hne hfin
 cases hxs:xL σ₁.toHp vi with
 | none=>rw [hxs] at hne; exact absurd rfl hne
 | some xs =>
  rw [hxs] at hne hfin
  dsimp only at hne hfin
  obtain ⟨vs,σf,ht⟩:=qGi (Rs.bind_ne hne)
  rw [Rs.bind_ok ht] at hne hfin
  obtain ⟨hz,hfit⟩:=qAx hne
  rw [hfit] at hfin
  refine qBv st₁.inv hvi hxs fun ob hit=>?_
  refine wpAny_newObj_type (wpAny_newFunctionEnv O.nocell (by intro y hy; simp at hy) (fun h₁ hns₁ hsb₁=>?_) O.kind)
  dsimp only at hns₁ hsb₁ ⊢
  generalize hH1:s₁.heap.push ob=H1 at hns₁ hsb₁ hit ⊢
  have z1:H1.objs.size=s₁.heap.objs.size+1:=by rw [← hH1,Heap.size_push]
  generalize hH2:H1.push { cls:=.type "list", dict:=none,data:=.seq ([]:List Value).toArray }=H2 at hns₁ hsb₁ ⊢
  have z2:H2.objs.size=s₁.heap.objs.size+2:=by rw [← hH2,Heap.size_push,z1]
  have nI:s₁.heap.get? s₁.heap.objs.size=none:=xI _
  have nD:s₁.heap.get? H1.objs.size=none:=Heap.get?_none_of_le (by rw [z1]; exact Nat.le_succ _)
  have nC:s₁.heap.get? H2.objs.size=none:=Heap.get?_none_of_le (by rw [z2]; exact Nat.le_add_right _ _)
  have up:∀ {a:Nat},s₁.heap.get? a=none→s.heap.get? a=none:=fun {a} h=>by
   cases q:s.heap.get? a with
   | none=>rfl
   | some o=>obtain ⟨o',e'⟩:=st₁.nx.live _ _ q; rw [h] at e'; cases e'
  have hID:s₁.heap.objs.size≠H1.objs.size:=by rw [z1]; lia
  have hIC:s₁.heap.objs.size≠H2.objs.size:=by rw [z2]; lia
  have hDC:H1.objs.size≠H2.objs.size:=by rw [z1,z2]; lia
  have old:∀ b o,s₁.heap.get? b=some o→h₁.get? b=some o:=fun b o e=>by
   have hb:b≠H2.objs.size:=by rintro rfl; rw [nC] at e; cases e
   exact hsb₁.extBut b o hb (Heap.get?_push_of_some _ (hH2 ▸ Heap.get?_push_of_some _ (hH1 ▸ Heap.get?_push_of_some _ e)))
  have eD:h₁.get? H1.objs.size=some (listOf #[] 0):=hsb₁.extBut _ _ hDC (Heap.get?_push_of_some _ (hH2 ▸ Heap.get?_push_size _ rfl))
  have eI:∀ o,H1.get? s₁.heap.objs.size=some o→h₁.get? s₁.heap.objs.size=some o:=fun o e=>hsb₁.extBut _ _ hIC (Heap.get?_push_of_some _ (hH2 ▸ Heap.get?_push_of_some _ e))
  have st₂:Step P fr env W₁ σ₁ s₁ W₁ σ₁ { s₁ with heap:=h₁ }:=Step.grow st₁.inv st₁.loc old rfl rfl
  have hit₂:ItAt W₁ σ₁.nxt h₁ s₁.heap.objs.size vi 0:=hit.mono (.refl ..) (Nat.le_refl _) eI
  have J:CompInv P fr env W₁ σ₁ s₁ vi s₁.heap.objs.size H1.objs.size H2.objs.size 0 [] W₁ σ₁ { s₁ with heap:=h₁ } :=
   ⟨st₂,Out.new st₁.inv nI,Out.new st₁.inv nD,Out.new st₁.inv nC,hit₂,⟨#[],0,eD,.nil⟩,⟨_,hns₁⟩⟩
  have loop:=qRw hh (e:=e) (i:=i) (yp:=yp) (p:=p) ie ic F S O nI nD nC hID hIC hDC (total:=vs) (σf:=σf) hz (acc:=[]) (rest:=vs) (j:=0)
   (R:=compPost P.M A E use Q (.ref H1.objs.size) H2.objs.size) ?_ (Nat.zero_le _) J (by simpa using ht) rfl
  ·exact codeAny_compStart_list loop (qKz (v:=vi) (n:=σ₁.nxt) (W:=W₁) (i:=0) hit₂ loop)
  ·intro W' s' st' oD oC hac hm
   exact hfin vs _ H1.objs.size H2.objs.size W' s' rfl ⟨⟨st₁.trans st',up nD,oD,hac,hz⟩,up nC,oC,hDC,hm⟩
theorem qTv (CC:CxOk P cx) {sc cs:Scope} {elt it cond:X} {x:Str} {e i:Expr} {ifs:List Expr} {yp p:Pos} (ii:Snd P cx it sc (.e i)) (ie:Snd P cx elt cs (.e e)) (ic:Snd P cx cond cs (.ofCond ifs)) (h4:jE x sc cs=true) (h1:jI i=false) :
  Snd P cx (.comp elt x it cond) sc (.e (.ListComp e [⟨.Name x yp,i,ifs,0⟩] cs p)):=by
 intro fr A env F S
 have key:OkE P fr A env (eval (.ListComp e [⟨.Name x yp,i,ifs,0⟩] cs p) env) (ev cx (.comp elt x it cond)):=fun W σ s I L hne=>by
  rw [eval_ListComp]
  refine uS CC ie ii ic F S (qMp h4) h1 I L hne (fun _ _ h=>h) fun xs σ' a C W' s' e R=>?_
  obtain ⟨m,hm⟩:=R.ns
  exact ⟨m,hm,fun h' hs=>by rw [e]; exact (R.go F hs).frozen⟩
 exact ⟨key,qL key fun _=>rfl⟩
end
section
variable {P:Par} {fr:List Nat} {A:Around} {env:Env} {W:Wd} {σ:St} {s:Shared} {cx:Cx}
theorem qOy {sc:Scope} {x:Str} {e:X} {v:Expr} {q p:Pos} (hx:sc.names.lookup x=some .local) (ie:Snd P cx e sc (.e v)):Snd P cx (.named x e) sc (.e (.NamedExpr (.Name x q) v p)):=by
 intro fr A env F S
 have hk:=S.loc x hx
 have key:OkE P fr A env (eval (.NamedExpr (.Name x q) v p) env) (ev cx (.named x e)):=fun W σ s I L hne=>by
  have hev:ev cx (.named x e) σ=(ev cx e σ).bind fun v σ₁=>.ok v (σ₁.set x v):=rfl
  rw [hev] at hne ⊢
  show wpAny P.M A (do let v ← eval v env; holding [v] (assign (.Name x q) env v); pure v) _ _ s
  refine wpAny_bind (zS (ie fr A env F S).1 I L hne (fun e s' h=>h) fun v c W₁ σ₁ s₁ e₁ st₁ hv=>?_)
  rw [Rs.bind_ok e₁]
  obtain ⟨m,hn,_⟩:=st₁.loc.loc
  refine wpAny_bind (wpAny_holding (wpAny_assign_Name (wpAny_storeName_local hk hn (fun h' hn' hs'=>?_) (by rw [st₁.loc.kind]; rfl))))
  have st₂:=Step.set (s':={ s₁ with heap:=h',toks:=s₁.toks+1 }) st₁.inv st₁.loc F.hL hv hk hn hn' hs' rfl rfl
  exact wpAny_pure ⟨v,σ₁.set x v,W₁,rfl,st₁.trans st₂,hv⟩
 exact ⟨key,qL key fun _=>rfl⟩
end
theorem qLy {pos pos':Pos} {c cv:Value} (l:List Value) (h:TriplesOk l) (e:codeAmong pos' (l++[rawInt pos.line,rawInt pos.col,c])=some cv):codeAmong pos' l=some cv∨cv=c:=by
 fun_induction TriplesOk l with
 | case1 =>
  simp only [List.nil_append,rawInt,codeAmong] at e
  split at e
  ·cases e; exact .inr rfl
  ·cases e
 | case2 a' t b' u x rest ih =>
  simp only [List.cons_append,codeAmong] at e ⊢
  split at e
  ·rename_i h'; rw [if_pos h']; exact .inl e
  ·rename_i h'; rw [if_neg h']; exact ih h e
 | case3 l h1 h2=>exact h.elim
structure LamScope (ps:List Str) (sc ls:Scope):Prop where
 shape:jX ps ls=true
 dis:distinct ps=true
 free:∀ n,(n,NameKind.free)∈ls.names→sc.names.lookup n=some .cell∨sc.names.lookup n=some .free
theorem qHp {ps:List Str} {sc ls:Scope} (h:yU ps sc ls=true):LamScope ps sc ls:=by
 unfold yU at h
 rw [Bool.and_eq_true] at h
 refine ⟨h.1,?_,fun n hn=>?_⟩
 ·have:=h.1; unfold jX at this; simp only [Bool.and_eq_true] at this; exact this.1.1.2
 ·have:=List.all_eq_true.mp h.2 _ hn; simpa using this
section
variable {P:Par} {fr:List Nat} {A:Around} {env:Env} {W:Wd} {σ:St} {s:Shared} {cx:Cx}
theorem Inv.out (I:Inv P fr W σ.toHp s) {a:Nat} (hn:s.heap.get? a=none):Out P fr W σ.nxt a where
 notB:=by
  cases hq:P.B.get? a with
  | none=>rfl
  | some o=>have:=I.keep _ _ hq; rw [hn] at this; cases this
 notFr:=fun hm=>by obtain ⟨o',e',_⟩:=(I.frB _ hm).2; rw [hn] at e'; cases e'
 notFz:=by
  cases hq:W.fz a with
  | none=>rfl
  | some o=>have:=(I.frz _ _ hq).1; rw [hn] at this; cases this
 notOwn:=fun k hk q=>by obtain ⟨o',e'⟩:=I.live k hk; rw [q,hn] at e'; cases e'
theorem qUu {k:Nat} {o:O} (h:σ.obj k=some o):σ.put k o=σ:=by
 have e:(fun j=>if j=k then some o else σ.obj j)=σ.obj:=funext fun j=>by
  by_cases hj:j=k
  ·subst hj; rw [if_pos rfl,h]
  ·rw [if_neg hj]
 show { σ with obj:=fun j=>if j=k then some o else σ.obj j }=σ
 rw [e]
theorem Step.putFz (I:Inv P fr W σ.toHp s) (L:Loc P env W σ s.heap) {k:Nat} (hk:k < σ.nxt) (hL:env.locals∈fr) (o:O) {c:Obj} {a:Nat} {oa:Obj} (hr:OR (W.freeze a oa) σ.nxt o c) {s':Shared} (hna:s.heap.get? a=none) (hs:∀ b o,b≠W.ρ k→s.heap.get? b=some o→s'.heap.get? b=some o) (hc:s'.heap.get? (W.ρ k)=some c) (ha:s'.heap.get? a=some oa) (hg:s'.gens=s.gens) (ho:s'.os=s.os) :
  Step P fr env W σ s (W.freeze a oa) (σ.put k o) s':=by
 have X:=I.out hna
 have fe:∀ b,(W.freeze a oa).fz b=if b=a then some oa else W.fz b:=fun _=>rfl
 have hfz:∀ b c,W.fz b=some c→(W.freeze a oa).fz b=some c:=fun b c h=>by
  rw [fe,if_neg]; exact h
  rintro rfl; rw [X.notFz] at h; cases h
 have wl:Wle σ.nxt W (W.freeze a oa):=⟨fun _ _=>rfl,hfz⟩
 have lv:∀ a o,s.heap.get? a=some o→∃ o',s'.heap.get? a=some o':=fun a o e=>by
  by_cases ha:a=W.ρ k
  ·subst ha; exact ⟨_,hc⟩
  ·exact ⟨o,hs a o ha e⟩
 refine ⟨⟨wl,Nat.le_refl _,lv,fun _ a b=>absurd b (Nat.not_lt.mpr a),fun b c' e=>?_,fun a o' e _ _ h=>hs a o' (Ne.symm (h k hk)) e,fun a o' h1 _ e=>⟨o',hs a o' (fun q=>I.nofr k hk (q ▸ h1)) e,rfl⟩⟩,⟨fun b o' e=>?_,I.old,fun j h=>let ⟨o,e⟩:=I.live j h; lv _ _ e,I.nofr,fun j h=>?_,I.inj,fun j o' h=>?_,fun b c' h=>?_,fun a h=>⟨(I.frB a h).1,let ⟨o,e,d⟩:=(I.frB a h).2; ⟨o,hs a o (fun q=>I.nofr k hk (q ▸ h)) e,d⟩⟩,hg.trans I.gens,ho.trans I.os,fun e o h=>wl.fz _ _ (I.exc e o h),I.tab0⟩,?_⟩
 ·rw [fe] at e
  by_cases hb:b=a
  ·subst hb; exact .inr hna
  ·rw [if_neg hb] at e; exact .inl e
 ·refine hs b o' ?_ (I.keep b o' e)
  rintro rfl; rw [I.old k hk] at e; cases e
 ·show (W.freeze a oa).fz (W.ρ j)=none
  rw [fe,if_neg (X.notOwn j h)]; exact I.nofz j h
 ·have h':(if j=k then some o else σ.obj j)=some o':=h
  by_cases hj:j=k
  ·subst hj; rw [if_pos rfl] at h'; cases h'; exact ⟨hk,c,hc,hr⟩
  ·rw [if_neg hj] at h'
   obtain ⟨a,c',b,d⟩:=I.obj j o' h'
   exact ⟨a,c',hs _ _ (fun q=>hj (I.inj j k a hk q)) b,d.mono wl (Nat.le_refl _)⟩
 ·rw [fe] at h
  by_cases hb:b=a
  ·subst hb; rw [if_pos rfl] at h; cases h; exact ⟨ha,X.notFr⟩
  ·rw [if_neg hb] at h
   refine ⟨hs b c' ?_ (I.frz b c' h).1,(I.frz b c' h).2⟩
   rintro rfl; rw [I.nofz k hk] at h; cases h
 ·obtain ⟨m,q,b⟩:=L.loc
  exact ⟨L.kind,L.glob,L.bns,⟨m,q.extBut (fun b o hb e=>hs b o hb e) fun q=>I.nofr k hk (q ▸ hL),fun x v h=>let ⟨p,c,q,r⟩:=b x v h; ⟨p,c,q,r.mono wl (Nat.le_refl _)⟩⟩,L.cel,L.cod⟩
theorem zAg (C:CxOk P cx) {sc ls:Scope} {ps:List Str} {b:X} {a:Arguments} {body:Expr} {p:Pos} (ha:One a ps) (hb:Ok b ls (.e body)) (hs:yU ps sc ls=true):Snd P cx (.lam ps b) sc (.e (.Lambda a body ls p)):=by
 have O:=qHp hs
 intro fr A env F S
 have key:OkE P fr A env (eval (.Lambda a body ls p) env) (ev cx (.lam ps b)):=fun W σ s I L hne=>by
  have hev:ev cx (.lam ps b) σ=qQu σ (.clo ps b σ.cel):=rfl
  rw [hev] at hne ⊢
  revert hne
  unfold qQu
  split
  case h_2=>exact fun hne=>absurd rfl hne
  rename_i k q htb
  split
  case h_2=>exact fun hne=>absurd rfl hne
  rename_i q' hobj
  split
  case isFalse=>exact fun hne=>absurd rfl hne
  rename_i hqq
  subst hqq
  intro hne
  obtain ⟨hk,hq,c,hc,hd⟩:=L.cod k q' htb
  obtain ⟨_,oc,hget,hor⟩:=I.obj k _ hobj
  cases hor with
  | tab hT =>
  rename_i pl
  obtain ⟨mg,bm,ob,hmg,hbm,hne0,hbo,hcls,hdict,hdata⟩:=C.lam
  have hMg:=kY I hmg
  have hold:=I.old k hk
  have hgP:mainGlobals≠W.ρ k:=fun q=>by
   obtain ⟨o,es,ep,e,_⟩:=hmg
   rw [q,hold] at e; cases e
  have hbP:bm≠W.ρ k:=fun q=>by rw [q,hold] at hbo; cases hbo
  have hbG:bm≠mainGlobals:=fun q=>by
   obtain ⟨o,es,ep,e,hd',_⟩:=hmg
   rw [q,e] at hbo; cases hbo; rw [hd'] at hdata; cases hdata
  have hB:s.heap.BuiltinsAt mg (W.ρ k):=⟨bm,ob,hbm,hne0,hbG,hbP,I.keep _ _ hbo,hcls,hdict,hdata⟩
  have hcl:=qCh (env:=env) (scope:=ls) fun n hn=>S.has n (S.cel n (O.free n hn))
  have hcel:∀ y j,σ.cel.lookup y=some j→j < σ.nxt∧(ls.names.lookup y=some .free→(vR env ls.names []).lookup y=some (W.ρ j)):=fun y j hj=>by
   obtain ⟨h1,h2⟩:=L.cel y j hj
   refine ⟨h1,fun hf=>?_⟩
   have hm:=qR hf
   exact xB (h2 (S.cel y (O.free y hm))) _ _ (.inl hm) (.inl rfl)
  have hfree:∀ y,ls.names.lookup y=some .free→∃ a',(vR env ls.names []).lookup y=some a':=fun y hf=>by
   have hm:=qR hf
   obtain ⟨a',ha'⟩:=S.has y (S.cel y (O.free y hm))
   exact ⟨a',xB ha' _ _ (.inl hm) (.inl rfl)⟩
  refine kla_eval (ha.dflt env) ?_
  have fin:∀ (W₁:Wd) (s₁:Shared) (cv ctv:Value) (tk:Tok),Step P fr env W σ s W₁ σ s₁→CodeFz W₁ cv q' →
    Post P fr env W σ s (.ok (.clo ps b σ.cel) σ) (.ref s₁.heap.objs.size) { s₁ with heap:=s₁.heap.push { cls:=.type "function", data:=.func (kla_fn "<lambda>" (env.qual++"<lambda>") a body ls (vR env ls.names []) ((mg "__name__").getD .none) cv ctv) },toks:=tk }:=by
   intro W₁ s₁ cv ctv tk st₁ hcv
   have st₂:=Step.freeze (s':={ s₁ with heap:=s₁.heap.push { cls:=.type "function", data:=.func (kla_fn "<lambda>" (env.qual++"<lambda>") a body ls (vR env ls.names []) ((mg "__name__").getD .none) cv ctv) },toks:=tk }) st₁.inv st₁.loc { cls:=.type "function", data:=.func (kla_fn "<lambda>" (env.qual++"<lambda>") a body ls (vR env ls.names []) ((mg "__name__").getD .none) cv ctv) } rfl rfl rfl rfl
   have st:=st₁.trans st₂
   refine ⟨_,_,_,rfl,st,.clo (by show (if _=_ then _ else _)=_; rw [if_pos rfl]) rfl ?_⟩
   refine ⟨⟨body,rfl,hb⟩,O.shape,?_,rfl,rfl,fun cargs hl=>ha.bind (kla_fn "<lambda>" (env.qual++"<lambda>") a body ls (vR env ls.names []) ((mg "__name__").getD .none) cv ctv) rfl rfl cargs hl,hfree,fun y j hj=>⟨(hcel y j hj).1,fun hf=>?_⟩⟩
   ·show CodeFz _ cv (env.qual++Str.ofString "<lambda>")
    exact (show CodeFz W₁ cv (env.qual++Str.ofString "<lambda>") from hq.symm ▸ hcv).mono st₂.nx.wle
   ·rw [st.nx.wle.ρ j (hcel y j hj).1]; exact (hcel y j hj).2 hf
  cases hf:codeAmong p pl.toList with
  | some cv =>
   refine kla_makeFunctionHit (mg:=mg) hcl L.glob hMg hc (hd.keeps I.keep) hget hT.1 hf hB fun ctv h' tk hkp _=>?_
   have st₁:Step P fr env W σ s W σ { s with heap:=h',toks:=tk }:=Step.grow I L hkp rfl rfl
   exact fin W _ cv ctv tk st₁ (hT.2 p cv hf)
  | none =>
   refine kla_makeFunction (mg:=mg) hcl L.glob hMg hc (hd.keeps I.keep) hget hT.1 hf hgP hB fun c' ctv h' tk hx hge hlt hrec htbl=>?_
   obtain ⟨c₂,oc,vs,t,e2,hoc,hdc,hv⟩:=hrec
   cases e2
   have hnew:s.heap.get? c'=none:=Heap.get?_none_of_le hge
   have hcf:CodeFz (W.freeze c' oc) (.ref c') q':=⟨c',oc,vs,t,rfl,by show (if _=_ then _ else _)=_; rw [if_pos rfl],hdc,hq ▸ hv⟩
   have st₁:Step P fr env W σ s (W.freeze c' oc) (σ.put k (.tab q')) { s with heap:=h',toks:=tk } :=
    Step.putFz I L hk F.hL (.tab q') (.tab ⟨by rw [Array.toList_append]; exact TriplesOk_snoc _ _ _ _ hT.1,fun pos cv e=>by
     rw [Array.toList_append] at e
     rcases qLy _ hT.1 e with e | e
     ·obtain ⟨c₁,o₁,vs₁,t₁,x1,x2,x3,x4⟩:=hT.2 pos cv e
      refine ⟨c₁,o₁,vs₁,t₁,x1,?_,x3,x4⟩
      show (if c₁=c' then _ else _)=_
      rw [if_neg]; exact x2
      rintro rfl; rw [(I.out hnew).notFz] at x2; cases x2
     ·rw [e]; exact hcf⟩) hnew (fun b o hb e=>hx b o hb e) htbl hoc rfl rfl
   rw [qUu hobj] at st₁
   exact fin _ _ (.ref c') ctv tk st₁ hcf
 exact ⟨key,qL key fun _=>rfl⟩
end
section
variable {P:Par} {cx:Cx}
theorem sound (C:CxOk P cx) {x:X} {sc:Scope} {ph:Ph} (h:Ok x sc ph):Snd P cx x sc ph:=by
 induction h with
 | none=>exact qTr
 | none'=>exact qOx
 | bool=>exact qTx
 | tt=>exact zHk
 | int=>exact zAi
 | str h=>exact zAb h
 | var h=>exact qZz h
 | cv h=>exact zHm h
 | glob h=>exact qTu C h
 | bin _ _ a b=>exact zAl a b
 | neg _ a=>exact zAf a
 | not _ a=>exact zAe a
 | cmp _ _ h a b=>exact zAk a b h
 | and _ _ a b=>exact zAm a b
 | and' _ _ a b=>exact qTz a b
 | or _ _ a b=>exact zHl a b
 | or' _ _ a b=>exact zAd a b
 | ite _ _ _ a b c=>exact zAh a b c
 | idx _ _ h a b=>exact zAj a b h
 | slc _ _ _ a b c=>exact zAc a b c
 | attr _ h a=>exact qTy C a h
 | list _ a=>exact qTt a
 | tup _ a=>exact zAa a
 | nil=>exact qMn
 | cons _ _ h a b=>exact qGx a b h
 | call _ _ a b=>exact qTw C a b
 | meth _ _ h h' a b=>exact qTs C a b h h'
 | comp _ _ _ h h' a b c=>exact qTv C a b c h h'
 | lam h hb hs=>exact zAg C h hb hs
 | named h _ a=>exact qOy h a
end
set_option genCtorIdx true in
inductive Fl where
 | next
 | brk
 | cont
 | ret (v:V)
noncomputable def qWg:Option O→Bool
 | some (.cell _)=>true
 | _=>false
noncomputable def St.setC (σ:St) (x:Str) (v:V):Option St:=(σ.cel.lookup x).bind fun k=>if qWg (σ.obj k)=true then some { σ with obj:=fun j=>if j=k then some (.cell (some v)) else σ.obj j } else none
theorem qHe {σ σ':St} {x:Str} {v:V} (h:σ.setC x v=some σ'):∃ k o,σ.cel.lookup x=some k∧σ.obj k=some (.cell o)∧σ'={ σ with obj:=fun j=>if j=k then some (.cell (some v)) else σ.obj j }:=by
 obtain ⟨k,h1,h2⟩:=Option.bind_eq_some_iff.mp h
 cases ho:σ.obj k with
 | none=>rw [ho] at h2; cases h2
 | some o=>cases o with
  | cell o=>rw [ho] at h2; cases h2; exact ⟨k,o,h1,ho,rfl⟩
  | _=>rw [ho] at h2; cases h2
noncomputable def setF (x:Str) (v:V):List (Str×V)→List (Str×V)
 | []=>[(x,v)]
 | (y,u)::r=>if x == y then (y,v)::r else (y,u)::setF x v r
noncomputable def uU (k:St→Rs Fl):Fl→St→Rs Fl
 | .next,σ=>k σ
 | .cont,σ=>k σ
 | .brk,σ=>.ok .next σ
 | .ret v,σ=>.ok (.ret v) σ
noncomputable def vH (c:St→Rs Bool) (b o:St→Rs Fl):Nat→St→Rs Fl
 | 0,_=>.bad
 | n+1,σ=>(c σ).bind fun t σ=>if t=true then (b σ).bind (uU (vH c b o n)) else o σ
open Classical in
noncomputable def kZ (v:V) (all:List V) (b:V→St→Rs Fl):List V→St→Rs Fl
 | [],σ=>if xL σ.toHp v=some all then .ok .next σ else .bad
 | y::r,σ=>if xL σ.toHp v=some all then (b y σ).bind (uU (kZ v all b r)) else .bad
section
variable {v:V} {all:List V} {b:V→St→Rs Fl} {σ:St}
theorem qIi (h:xL σ.toHp v=some all):kZ v all b [] σ=.ok .next σ:=if_pos h
theorem qNt {y:V} {r:List V} (h:xL σ.toHp v=some all):kZ v all b (y::r) σ=(b y σ).bind (uU (kZ v all b r)):=if_pos h
theorem qIh {l:List V} (h:kZ v all b l σ≠.bad):xL σ.toHp v=some all:=by
 refine Classical.byContradiction fun q=>h ?_
 cases l <;> exact if_neg q
end
noncomputable def condS (v:V) (σ:St) (t e:St→Rs Fl):Rs Fl:=match zT σ.toHp v with
 | some true=>t σ
 | some false=>e σ
 | none=>.bad
structure TabOk (K:Frag) (C d:Addr) (f:Nat→Nat):Prop where
 obj:∃ o es ep,K.lookup d=some o∧o.cls=.ref C∧o.data=.dict es ep∧IntKeys es∧∀ c:Nat,c < 128→∃ t,findBy Value.isInt es (c:Int)=some (.int (f c:Nat) t)
 get:findIn K (.ref C) "__getitem__" = some (some (.builtin "dict.__getitem__"))
 seq:subIn K (.ref C) (.type "collections.deque")=some false
 sub:subIn K (.ref C) (.type "dict")=some true
 low:∀ c,c < 128→f c < 128
noncomputable def kJ (f:Nat→Nat) (x:Str):Str:=⟨(x.cps.toList.map f).toArray⟩
noncomputable def qBq (v a b:Str):Bool:=decide (v.length+(v.length+1) * b.length≤16777216) && decide ((Txt.replace v a b).length≤sizeLine) && PyData.strOk (Txt.replace v a b)
noncomputable def qBp:List (Str×Str)→Str→Option Str
 | [],v=>some v
 | (a,b)::r,v=>if qBq v a b=true then qBp r (Txt.replace v a b) else none
noncomputable def trOk (f:Nat→Nat) (v:Str):Bool:=v.cps.toList.all (fun c=>decide (c < 128)) && PyData.strOk (kJ f v)
noncomputable def qJw (f:Nat→Nat) (ps:List (Str×Str)) (v:Str):Option Str:=if trOk f v=true then qBp ps (kJ f v) else none
structure Sx extends Cx where
 tr:V→Option (Nat→Nat)
 setA:V→Str→V→Hp→Option Hp
 exc:V→List V→Hp→Option Hp:=fun _ _ _=>none
noncomputable def qHi (v:V) (σ:St) (k:V→St→Rs Fl):Rs Fl:=match v with
 | .list xs=>k (.ref σ.nxt) (σ.add (.list xs))
 | _=>.bad
noncomputable def zZ:Option St→Rs Fl
 | some σ=>.ok .next σ
 | none=>.bad
noncomputable def zKh (f:Fl) (σ:St) (k:St→Rs Fl):Rs Fl:=match f with
 | .next=>k σ
 | f=>.ok f σ
noncomputable def qKr:V→Option (List V)
 | .tup xs=>some xs
 | _=>none
noncomputable def jO (v:V) (k:V→V→Rs Fl):Rs Fl:=match qKr v with
 | some [a,b]=>k a b
 | _=>.bad
noncomputable def qRv (x:Str) (σ:St):Rs Fl:=match σ.loc.lookup x with
 | some (.ref k)=>(match σ.obj k with
  | some (.list (y::ys))=>.ok .next { σ with obj:=fun j=>if j=k then some (.list (y::ys).dropLast) else σ.obj j }
  | _=>.bad)
 | _=>.bad
noncomputable def qNc:V→Bool
 | .top (.type n)=>n == "list"
 | _=>false
noncomputable def qUv (c:Bool) (σ:St) (x:Str) (v:V):Option St:=if c=true then σ.setC x v else some (σ.set x v)
noncomputable def qMw (c:Bool) (x:Str) (vf:V) (vs:List V) (σ:St):Rs Fl:=if qNc vf=true then (match vs with
 | [v]=>(match qM σ.toHp v with
  | some xs=>zZ (qUv c (σ.add (.list xs)) x (.ref σ.nxt))
  | none=>.bad)
 | _=>.bad) else .bad
noncomputable def asT:V→Bool
 | .top (.type n)=>n == "AssertionError"
 | _=>false
noncomputable def ex:S→Sx→St→Rs Fl
 | .brk,_,σ=>.ok .brk σ
 | .expr e,cx,σ=>(ev cx.toCx e σ).bind fun _ σ₁=>.ok .next σ₁
 | .asg x e,cx,σ=>(ev cx.toCx e σ).bind fun v σ₁=>.ok .next (σ₁.set x v)
 | .own x e,cx,σ=>(ev cx.toCx e σ).bind fun v σ₁=>qHi v σ₁ fun r σ₂=>.ok .next (σ₂.set x r)
 | .asgC x e,cx,σ=>(ev cx.toCx e σ).bind fun v σ₁=>zZ (σ₁.setC x v)
 | .setA o f e,cx,σ=>(ev cx.toCx e σ).bind fun v σ₁=>(ev cx.toCx o σ₁).bind fun vo σ₂=>zZ ((cx.setA vo f v σ₂.toHp).map fun H=>{ σ₂ with toHp:=H })
 | .ret e,cx,σ=>(ev cx.toCx e σ).bind fun v σ₁=>.ok (.ret v) σ₁
 | .ite c a b,cx,σ=>(ev cx.toCx c σ).bind fun v σ₁=>condS v σ₁ (ex a cx) (ex b cx)
 | .loop n c b o,cx,σ=>vH (tr (ev cx.toCx c)) (ex b cx) (ex o cx) n σ
 | .each x it b,cx,σ=>if cx.calm=true then .bad else (ev cx.toCx it σ).bind fun v σ₁=>match xL σ₁.toHp v with
  | some xs=>kZ v xs (fun u σ=>ex b cx (σ.set x u)) xs σ₁
  | none=>.bad
 | .assert e,cx,σ=>(ev cx.toCx e σ).bind fun v σ₁=>condS v σ₁ (fun σ₁=>.ok .next σ₁) (fun _=>.bad)
 | .nil,_,σ=>.ok .next σ
 | .seq a b,cx,σ=>(ex a cx σ).bind fun f σ₁=>zKh f σ₁ (ex b cx)
 | .asg2 x y e,cx,σ=>(ev cx.toCx e σ).bind fun v σ₁=>jO v fun a b=>.ok .next ((σ₁.set x a).set y b)
 | .cont,_,σ=>.ok .cont σ
 | .ret0,_,σ=>.ok (.ret .none) σ
 | .asgs x y e,cx,σ=>(ev cx.toCx e σ).bind fun v σ₁=>.ok .next ((σ₁.set x v).set y v)
 | .ownA o f x e,cx,σ=>(ev cx.toCx e σ).bind fun v σ₁=>qHi v σ₁ fun r σ₂=>(ev cx.toCx o σ₂).bind fun vo σ₃=>zZ ((cx.setA vo f r σ₃.toHp).map fun H=>({ σ₃ with toHp:=H }:St).set x r)
 | .ownL c x e,cx,σ=>(ev cx.toCx (.glob "list") σ).bind fun vf σ₀=>(ev cx.toCx (.cons e .nil) σ₀).bind fun vs σ₁=>kM vs σ₁ (qMw c x vf)
 | .setA2 o f o' f' e,cx,σ=>(ev cx.toCx e σ).bind fun v σ₁=>jO v fun a b=>(ev cx.toCx o σ₁).bind fun vo σ₂=>(zZ ((cx.setA vo f a σ₂.toHp).map fun H=>{ σ₂ with toHp:=H })).bind fun _ σ₃ =>
   (ev cx.toCx o' σ₃).bind fun vo' σ₄=>zZ ((cx.setA vo' f' b σ₄.toHp).map fun H=>{ σ₄ with toHp:=H })
 | .delL x,_,σ=>qRv x σ
 | .tryA o m as,cx,σ=>if cx.calm=true∨(cx.gl "AssertionError").any asT=false then .bad else (ev cx.toCx o σ).bind fun vo σ₁=>(cx.get vo m σ₁.toHp).elim .bad fun p=>(ev cx.toCx as σ₁).bind fun vs σ₂=>kM vs σ₂ fun xs σ₂ =>
   zZ ((cx.exc p.1 (p.2++xs) σ₂.toHp).map fun H=>{ σ₂ with toHp:=H })
 | .sq x tn ps b,cx,σ=>match σ.loc.lookup x with
  | some (.str v)=>(cx.gl tn).elim .bad fun vt=>(cx.tr vt).elim .bad fun f=>(qJw f ps v).elim .bad fun v'=>ex b cx (σ.set x (.str v'))
  | _=>.bad
structure FmS (P:Par) (lv:Nat) (fr:List Nat) (A:Around) (env:Env):Prop extends Fm P lv fr A env where
 top:∃ outer,A.frames=some (env::outer)
 frame:env.frame=some env.locals
section
variable {P:Par} {fr:List Nat} {A:Around} {env:Env} {W W':Wd} {σ σ':St} {s s':Shared} {lv:Nat}
theorem qEa {h:Heap} (hB:∀ a∈fr,P.B.get? a=none∧∃ o,h.get? a=some o∧∀ vs,o.data≠.fields vs):∀ {l:List Env},(∀ e∈l,e.scope.kind≠.module∧∃ L,e.frame=some L∧L∈fr)→h.FunFrames P.B l
 | [],_=>trivial
 | e::r,hl=>by
  obtain ⟨hk,L,hf,hm⟩:=hl e (.head _)
  obtain ⟨b,o,ho,hd⟩:=hB L hm
  exact ⟨hk,⟨L,o,hf,b,ho,hd⟩,qEa hB fun e' he'=>hl e' (.tail _ he')⟩
end
structure ExcAt (P:Par) (fr:List Nat) (W:Wd) (n:Nat) (h₀ h:Heap) (e:Nat) (cls:String):Prop where
 notB:P.B.get? e=none
 notFr:e ∉ fr
 notFz:W.fz e=none
 notOwn:∀ k,k < n→W.ρ k≠e
 new:h₀.get? e=none
 there:∃ ob vs,h.get? e=some ob∧ob.cls=.type cls∧ob.data=.fields vs∧1 < vs.size∧vs[2]? = some .none∧(vs[1]? = some .none ∨
  ∃ T oT ts,vs[1]? = some (.ref T)∧P.B.get? T=none∧T ∉ fr∧W.fz T=none∧(∀ k,k < n→W.ρ k≠T)∧h₀.get? T=none∧T≠e∧h.get? T=some oT∧oT.data=.fields ts∧ts[3]? = some .none)
theorem ExcAt.older {P:Par} {fr:List Nat} {W:Wd} {n:Nat} {h₀ h₁ h:Heap} {e:Nat} {cls:String} (x:ExcAt P fr W n h₁ h e cls) (hl:∀ a o,h₀.get? a=some o→∃ o',h₁.get? a=some o'):ExcAt P fr W n h₀ h e cls:=by
 have up:∀ a,h₁.get? a=none→h₀.get? a=none:=fun a ha=>by
  cases q:h₀.get? a with
  | none=>rfl
  | some o=>obtain ⟨o',e'⟩:=hl a o q; rw [ha] at e'; cases e'
 obtain ⟨ob,vs,h1,h2,h3,h4,hc,h5⟩:=x.there
 refine ⟨x.notB,x.notFr,x.notFz,x.notOwn,up _ x.new,ob,vs,h1,h2,h3,h4,hc,?_⟩
 rcases h5 with h5 | ⟨T,oT,ts,t1,t2,t3,t4,t5,t6,t7⟩
 ·exact .inl h5
 ·exact .inr ⟨T,oT,ts,t1,t2,t3,t4,t5,up _ t6,t7⟩
section
variable {P:Par} {fr:List Nat} {A:Around} {env:Env} {W W':Wd} {σ σ':St} {s s':Shared} {lv:Nat}
theorem zFd (I:Inv P fr W σ.toHp s) (L:Loc P env W σ s.heap) {h':Heap} {tk:Nat} {e:Addr} {cls:String} (x:Heap.NewExc s.heap h' e cls) :
  Step P fr env W σ s W σ { s with heap:=h',toks:=tk }∧ExcAt P fr W σ.nxt s.heap h' e cls:=by
 have st:Step P fr env W σ s W σ { s with heap:=h',toks:=tk }:=Step.grow I L x.keeps rfl rfl
 obtain ⟨ob,t,h1,h2,h3⟩:=x.there
 refine ⟨st,?_,?_,?_,fun k hk q=>?_,x.new,ob,_,h1,h2,h3,by simp,by simp,.inl (by simp)⟩
 ·cases q:P.B.get? e with
  | none=>rfl
  | some o=>have:=I.keep _ _ q; rw [x.new] at this; cases this
 ·intro hm
  obtain ⟨o,e',_⟩:=(I.frB _ hm).2
  rw [x.new] at e'; cases e'
 ·cases q:W.fz e with
  | none=>rfl
  | some o=>have:=(I.frz _ _ q).1; rw [x.new] at this; cases this
 ·obtain ⟨o,e'⟩:=I.live k hk
  rw [q,x.new] at e'; cases e'
noncomputable def qYz (P:Par) (W:Wd) (n:Nat) (h₀:Heap) (b:Nat):Prop:=P.B.get? b≠none∨W.fz b≠none∨(∃ k,k < n∧W.ρ k=b)∨h₀.get? b≠none
structure Noted (P:Par) (fr:List Nat) (W:Wd) (n:Nat) (h₀ h h':Heap) (e:Nat) (cls:String):Prop where
 keep:∀ b o,h.get? b=some o→b ∉ fr→qYz P W n h₀ b→h'.get? b=some o
 slots:∀ b o,h.get? b=some o→b∈fr→∃ o',h'.get? b=some o'∧o'.data=o.data
 exc:ExcAt P fr W n h₀ h' e cls
theorem zGr {Q:Unit→Shared→Prop} {E:Value→Shared→Prop} {M:Model} (F:FmS P lv fr A env) (I:Inv P fr W σ.toHp s) {h₀:Heap} {e:Nat} {cls:String} (x:ExcAt P fr W σ.nxt h₀ s.heap e cls) (h0:∀ a o,h₀.get? a=some o→∃ o',s.heap.get? a=some o')
  (hQ:∀ h',Noted P fr W σ.nxt h₀ s.heap h' e cls→Q () { s with heap:=h' }) :
  wpAny M A (noteFrame (.ref e) env) (fun _ s'=>wpAny M A (setFlight (.ref e) none) Q E s') E s:=by
 obtain ⟨outer,hfr⟩:=F.top
 obtain ⟨l,hl,hfm⟩:=F.frames
 rw [hfr] at hl; cases hl
 have hmem:∀ b∈(env::outer).filterMap (·.frame),b∈fr:=fun b hb=>by
  obtain ⟨e',he',hf'⟩:=List.mem_filterMap.mp hb
  obtain ⟨_,L,hL,hm⟩:=hfm e' he'
  rw [hL] at hf'; cases hf'; exact hm
 obtain ⟨oe,vs,he,hcls,hd,hsz,hctx,hT⟩:=x.there
 have key:∀ (s₁:Shared) (head:Value) (hadNext:Bool),s₁.gens=s.gens→s₁.drawn=s.drawn→s₁.toks=s.toks→s₁.os=s.os→s₁.heap.get? e=some oe →
   (∀ b o,s.heap.get? b=some o→b ∉ fr→qYz P W σ.nxt h₀ b→s₁.heap.get? b=some o)→(∀ b o,s.heap.get? b=some o→b∈fr→s₁.heap.get? b=some o)→(∀ a o,s.heap.get? a=some o→∃ o',s₁.heap.get? a=some o') →
   wpAny M A (do let a ← frameOf env; let pl ← entryPlaceOf env.locals hadNext; let b ← EntryCells.newEntry head a .none (rawInt env.locals) .none pl; setField (.ref e) 1 b) (fun _ s'=>wpAny M A (setFlight (.ref e) none) Q E s') E s₁:=by
  intro s₁ head hadNext g1 g2 g3 g4 he₁ k1 k2 k3
  have hff:s₁.heap.FunFrames P.B (env::outer):=qEa (fun a ha=>by
   obtain ⟨b,o,ho,hd⟩:=I.frB a ha
   exact ⟨b,o,k2 a o ho ha,hd⟩) hfm
  refine wpAny_bind (wpAny_frameOf_fun hfr hff F.frame fun h₂ hs₂=>?_)
  refine wpAny_bind (wpAny_entryPlaceOf fun pl hpl=>?_)
  unfold EntryCells.newEntry newFields
  refine wpAny_bind (wpAny_newObj_type ?_ (hpl.sizeOk5 _ _ _ _ _))
  have hne:e ∉ (env::outer).filterMap (·.frame):=fun hm=>x.notFr (hmem e hm)
  have he₂:h₂.get? e=some oe:=(hs₂.2.1 e hne).trans he₁
  generalize hob:({ cls:=.type "traceback", dict:=none,data:=.fields ([head,.ref env.locals,.none,rawInt env.locals,.none]++(if pl.isEmpty then List.replicate 6 Value.none else pl)).toArray }:Obj)=ob
  have hobf:ob.isFreed=false:=by rw [← hob]; rfl
  obtain ⟨ts,hobd,hts⟩:∃ ts,ob.data=.fields ts∧3 < ts.size:=⟨_,by rw [← hob],by simp only [List.size_toArray,List.length_append,List.length_cons,List.length_nil]; lia⟩
  have he₃:(h₂.push ob).get? e=some oe:=Heap.get?_push_of_some _ he₂
  have hTn:h₂.get? h₂.objs.size=none:=xI _
  have hTe:h₂.objs.size≠e:=Nat.ne_of_gt (Heap.lt_size he₂)
  refine wpAny_setField he₃ hd hsz ?_
  have hd₄:=Obj.data_mapFields hd (·.setIfInBounds 1 (Value.ref h₂.objs.size))
  have he₄:=Heap.get?_update_self (Obj.mapFields (·.setIfInBounds 1 (Value.ref h₂.objs.size))) he₃ (Obj.isFreed_of_fields hd₄)
  have hT₄:((h₂.push ob).update e (Obj.mapFields (·.setIfInBounds 1 (Value.ref h₂.objs.size)))).get? h₂.objs.size=some ob:=(Heap.get?_update_other _ _ (Ne.symm hTe)).trans (Heap.get?_push_size _ hobf)
  have hv1:(vs.setIfInBounds 1 (Value.ref h₂.objs.size))[1]? = some (.ref h₂.objs.size):=by simp [hsz]
  unfold setFlight
  refine wpAny_bind (wpAny_field he₄ hd₄ hv1 ?_)
  rw [if_pos (show (Value.ref h₂.objs.size != Value.none)=true from by simp)]
  refine wpAny_setField hT₄ hobd hts ?_
  have hd₅:=Obj.data_mapFields hobd (·.setIfInBounds 3 ((none:Option Addr).elim Value.none fun f=>rawInt f))
  have hT₅:=Heap.get?_update_self (Obj.mapFields (·.setIfInBounds 3 ((none:Option Addr).elim Value.none fun f=>rawInt f))) hT₄ (Obj.isFreed_of_fields hd₅)
  generalize hh5:((h₂.push ob).update e (Obj.mapFields (·.setIfInBounds 1 (Value.ref h₂.objs.size)))).update h₂.objs.size (Obj.mapFields (·.setIfInBounds 3 ((none:Option Addr).elim Value.none fun f=>rawInt f)))=h₅ at hT₅
  have other:∀ b o,b≠e→h₂.get? b=some o→h₅.get? b=some o:=fun b o hb e'=>by
   have hbT:h₂.objs.size≠b:=Nat.ne_of_gt (Heap.lt_size e')
   rw [← hh5,Heap.get?_update_other _ _ hbT,Heap.get?_update_other _ _ (Ne.symm hb)]
   exact Heap.get?_push_of_some _ e'
  have he₅:h₅.get? e=some (oe.mapFields (·.setIfInBounds 1 (Value.ref h₂.objs.size))):=by
   rw [← hh5,Heap.get?_update_other _ _ hTe]; exact he₄
  have hgone:∀ b,h₂.get? b=none→s.heap.get? b=none:=fun b hb=>by
   cases q:s.heap.get? b with
   | none=>rfl
   | some o =>
    obtain ⟨o',e'⟩:=k3 b o q
    obtain ⟨sl,e''⟩:=hs₂.2.2 b o' e'
    rw [hb] at e''; cases e''
  have heN:¬ qYz P W σ.nxt h₀ e:=fun hh=>by
   rcases hh with q | q | ⟨k,hk,q⟩ | q
   ·exact q x.notB
   ·exact q x.notFz
   ·exact x.notOwn k hk q
   ·exact q x.new
  have hTnone:=hgone _ hTn
  have oT:Out P fr W σ.nxt h₂.objs.size:=Out.new I hTnone
  rw [show (⟨h₅,s₁.gens,s₁.drawn,s₁.toks,s₁.os⟩:Shared)={ s with heap:=h₅ } from by rw [g1,g2,g3,g4]]
  refine hQ h₅ ⟨fun b o e' hb hh=>?_,fun b o e' hb=>?_,x.notB,x.notFr,x.notFz,x.notOwn,x.new,_,_,he₅,(Obj.cls_mapFields ..).trans hcls,hd₄,by simp [hsz],(Array.getElem?_setIfInBounds_ne (by decide)).trans hctx,.inr ⟨h₂.objs.size,_,_,hv1,oT.notB,oT.notFr,oT.notFz,oT.notOwn,?_,hTe,hT₅,hd₅,?_⟩⟩
  ·refine other b o (by rintro rfl; exact heN hh) ?_
   exact (hs₂.2.1 b fun hm=>hb (hmem b hm)).trans (k1 b o e' hb hh)
  ·obtain ⟨sl,e''⟩:=hs₂.2.2 b o (k2 b o e' hb)
   exact ⟨_,other b _ (by rintro rfl; exact x.notFr hb) e'',rfl⟩
  ·cases q:h₀.get? h₂.objs.size with
   | none=>rfl
   | some o=>obtain ⟨o',e'⟩:=h0 _ _ q; rw [hTnone] at e'; cases e'
  ·simp [hts]
 unfold noteFrame
 simp only [F.frame]
 rcases hT with h1 | ⟨T,oT,ts,h1,t2,t3,t4,t5,t6,t7,t8,t9,t10⟩
 ·refine wpAny_bind (wpAny_field he hd h1 ?_)
  rw [if_neg (by decide)]
  exact key s _ _ rfl rfl rfl rfl he (fun _ _ e' _ _=>e') (fun _ _ e' _=>e') (fun _ o e'=>⟨o,e'⟩)
 ·refine wpAny_bind (wpAny_field he hd h1 ?_)
  rw [if_pos (show (Value.ref T != Value.none)=true from by simp)]
  refine wpAny_bind (wpAny_field t8 t9 t10 ?_)
  rw [if_neg (show ¬ ((Value.none == rawInt env.locals)=true) from by simp [rawInt])]
  refine wpAny_bind (wpAny_setField t8 t9 (Array.getElem?_eq_some_iff.mp t10).1 ?_)
  have hT':=Heap.get?_update_self (Obj.mapFields (·.setIfInBounds 3 Value.none)) t8 (Obj.isFreed_of_fields (Obj.data_mapFields t9 _))
  have other:∀ b o,b≠T→s.heap.get? b=some o→(s.heap.update T (Obj.mapFields (·.setIfInBounds 3 Value.none))).get? b=some o:=fun b o hb e'=>(Heap.get?_update_other _ _ (Ne.symm hb)).trans e'
  have hTN:¬ qYz P W σ.nxt h₀ T:=fun hh=>by
   rcases hh with q | q | ⟨k,hk,q⟩ | q
   ·exact q t2
   ·exact q t4
   ·exact t5 k hk q
   ·exact q t6
  refine key _ _ _ rfl rfl rfl rfl (other e oe (Ne.symm t7) he) (fun b o e' hb hh=>other b o (by rintro rfl; exact hTN hh) e') (fun b o e' hb=>other b o (by rintro rfl; exact t3 hb) e') (fun a o e'=>?_)
  by_cases ha:a=T
  ·subst ha; exact ⟨_,hT'⟩
  ·exact ⟨o,other a o ha e'⟩
theorem Step.noted {e:Nat} {cls:String} {h':Heap} (st:Step P fr env W σ s W' σ' s') (hL:env.locals∈fr) (N:Noted P fr W' σ'.nxt s.heap s'.heap h' e cls):Step P fr env W σ s W' σ' { s' with heap:=h' }:=by
 have J:=st.inv
 have hs:∀ a o,s.heap.get? a=some o→qYz P W' σ'.nxt s.heap a:=fun a o e'=>.inr (.inr (.inr (by rw [e']; intro q; cases q)))
 refine ⟨⟨st.nx.wle,st.nx.le,fun a o e'=>?_,st.nx.new,st.nx.fzn,fun a o e' h1 h0 h2=>N.keep a o (st.nx.ext a o e' h1 h0 h2) h0 (hs a o e'),fun a o h1 h2 e'=>?_⟩,
  ⟨fun b o e'=>?_,J.old,fun k h=>?_,J.nofr,J.nofz,J.inj,fun k o e'=>?_,fun a c e'=>?_,fun a h=>?_,J.gens,J.os,J.exc,J.tab0⟩,?_⟩
 ·obtain ⟨o',e''⟩:=st.nx.live a o e'
  by_cases ha:a∈fr
  ·obtain ⟨o'',e3,_⟩:=N.slots a o' e'' ha; exact ⟨o'',e3⟩
  ·exact ⟨o',N.keep a o' e'' ha (hs a o e')⟩
 ·obtain ⟨o',e'',d'⟩:=st.nx.fext a o h1 h2 e'
  obtain ⟨o'',e3,d3⟩:=N.slots a o' e'' h1
  exact ⟨o'',e3,d3.trans d'⟩
 ·refine N.keep b o (J.keep b o e') (fun hm=>?_) (.inl (by rw [e']; intro q; cases q))
  rw [(J.frB b hm).1] at e'; cases e'
 ·obtain ⟨o,e'⟩:=J.live k h
  exact ⟨o,N.keep _ o e' (J.nofr k h) (.inr (.inr (.inl ⟨k,h,rfl⟩)))⟩
 ·obtain ⟨p,c,b,d⟩:=J.obj k o e'
  exact ⟨p,c,N.keep _ c b (J.nofr k p) (.inr (.inr (.inl ⟨k,p,rfl⟩))),d⟩
 ·exact ⟨N.keep a c (J.frz a c e').1 (J.frz a c e').2 (.inr (.inl (by rw [e']; intro q; cases q))),(J.frz a c e').2⟩
 ·obtain ⟨b,o,e',d⟩:=J.frB a h
  obtain ⟨o',e'',d'⟩:=N.slots a o e' h
  exact ⟨b,o',e'',fun vs q=>d vs (d'.symm.trans q)⟩
 ·obtain ⟨m,⟨oL,es,ep,e1,d1,rr⟩,q2⟩:=st.loc.loc
  obtain ⟨o',e'',d'⟩:=N.slots _ oL e1 hL
  exact ⟨st.loc.kind,st.loc.glob,st.loc.bns,⟨m,⟨o',es,ep,e'',d'.trans d1,rr⟩,q2⟩,st.loc.cel,st.loc.cod⟩
theorem qLe {Q:Unit→Shared→Prop} {E:Value→Shared→Prop} (st:Step P fr env W σ s W' σ' s') (hL:env.locals∈fr) {e:Nat} {cls:String} (x:ExcAt P fr W' σ'.nxt s.heap s'.heap e cls)
  (hq:∀ s'',Step P fr env W σ s W' σ' s''→(∃ ob,s''.heap.get? e=some ob∧qOe ob)→Q () s''):wpAny P.M A (setFlight (.ref e) none) Q E s':=by
 obtain ⟨ob,vs,h1,h2,h3,h4,hctx,h5⟩:=x.there
 unfold setFlight
 rcases h5 with h5 | ⟨T,oT,ts,t1,t2,t3,t4,t5,t6,t7,t8,t9,t10⟩
 ·refine wpAny_bind (wpAny_field h1 h3 h5 ?_)
  rw [if_neg (by decide)]
  exact wpAny_pure (hq _ st ⟨ob,h1,vs,h3,hctx⟩)
 ·refine wpAny_bind (wpAny_field h1 h3 t1 ?_)
  rw [if_pos (show (Value.ref T != Value.none)=true from by simp)]
  refine wpAny_setField t8 t9 (Array.getElem?_eq_some_iff.mp t10).1 ?_
  exact hq _ (st.aside hL t6 ⟨t2,t3,t4,t5⟩ (fun b o hb e'=>(Heap.get?_update_other _ _ (Ne.symm hb)).trans e') rfl rfl) ⟨ob,(Heap.get?_update_other _ _ t7).trans h1,vs,h3,hctx⟩
end
noncomputable def zLh (P:Par) (fr:List Nat) (env:Env) (W:Wd) (σ:St) (s:Shared) (H:Hp) (e:Value) (s':Shared):Prop:=∃ W' ea,e=.ref ea∧Step P fr env W σ s W' { σ with toHp:=H } s'∧ExcAt P fr W' H.nxt s.heap s'.heap ea "AssertionError"
inductive FlR (W:Wd) (n:Nat):Fl→Flow→Prop
 | next:FlR W n .next .next
 | brk:FlR W n .brk .brk
 | cont:FlR W n .cont .cont
 | ret {v:V} {c:Value}:VR W n v c→FlR W n (.ret v) (.ret c)
structure SxOk (P:Par) (cx:Sx):Prop where
 tr:∀ v f,cx.tr v=some f→∃ d K C,v=.top (.ref d)∧TabOk K C d f∧K.In P.B
 base:CxOk P cx.toCx
 exc:∀ fr A env,Fm P cx.lvl fr A env→P.ex=none→∀ W σ s,Inv P fr W σ.toHp s→Loc P env W σ s.heap→∀ f args cf cargs H,VR W σ.nxt f cf→VRs W σ.nxt args cargs→cx.exc f args σ.toHp=some H →
  vB P.M A cf s∧wpAny P.M A (call cf cargs []) (fun _ _=>False) (zLh P fr env W σ s H) s
 setA:∀ fr A env,Fm P cx.lvl fr A env→∀ W σ s,Inv P fr W σ.toHp s→Loc P env W σ s.heap→∀ o f v co c H,VR W σ.nxt o co→VR W σ.nxt v c→cx.setA o f v σ.toHp=some H →
  ∀ (E:Value→Shared→Prop) (Q:Unit→Shared→Prop),(∀ W' s',Step P fr env W σ s W' { σ with toHp:=H } s'→Q () s')→wpAny P.M A (setAttr co f c) Q E s
section
variable (P:Par) (fr:List Nat) (env:Env) (W:Wd) (σ:St) (s:Shared)
inductive PostF (r:Rs Fl) (f:Flow) (s':Shared):Prop where
 | mk (v:Fl) (σ':St) (W':Wd) (h1:r=.ok v σ') (h2:Step P fr env W σ s W' σ' s') (h3:FlR W' σ'.nxt v f)
end
noncomputable def OkS (P:Par) (fr:List Nat) (A:Around) (env:Env) (t:Sem Flow) (f:St→Rs Fl):Prop :=
 ∀ W σ s,Inv P fr W σ.toHp s→Loc P env W σ s.heap→f σ≠.bad→wpAny P.M A t (PostF P fr env W σ s (f σ)) NoE s
noncomputable def zLi (P:Par) (cx:Sx) (st:S) (fr:List Nat) (A:Around) (env:Env):Pt→Prop
 | .s x=>OkS P fr A env (exec x env) (ex st cx)
 | .l x=>OkS P fr A env (execs x env) (ex st cx)
noncomputable def xG (P:Par) (st:S) (sc:Scope) (pt:Pt):Prop:=∀ cx:Sx,SxOk P cx→∀ fr A env,FmS P cx.lvl fr A env→ScOk sc env→zLi P cx st fr A env pt
section
variable {P:Par} {fr:List Nat} {A:Around} {env:Env} {W W':Wd} {σ σ':St} {s s':Shared} {cx:Sx}
theorem PostF.after {r:Rs Fl} {c:Flow} {s'':Shared} (a:Step P fr env W σ s W' σ' s') (b:PostF P fr env W' σ' s' r c s''):PostF P fr env W σ s r c s'' :=
 let ⟨v,σ'',W'',e,st,h⟩:=b; ⟨v,σ'',W'',e,a.trans st,h⟩
theorem qUf {sc:Scope} {p:Pos}:xG P .brk sc (.s (.Break p)):=fun cx C fr A env F S W σ s I L _=>wpAny_Break ⟨_,σ,W,rfl,Step.refl I L,.brk⟩
theorem qPj {sc:Scope} {p:Pos}:xG P .cont sc (.s (.Continue p)):=fun cx C fr A env F S W σ s I L _=>wpAny_Continue ⟨_,σ,W,rfl,Step.refl I L,.cont⟩
theorem qPb {sc:Scope} {p:Pos}:xG P .ret0 sc (.s (.Return none p)):=fun cx C fr A env F S W σ s I L _=>wpAny_Return_none ⟨_,σ,W,rfl,Step.refl I L,.ret .none⟩
theorem qUb {sc:Scope} {e:X} {v:Expr} {p:Pos} (h:Ok e sc (.e v)):xG P (.ret e) sc (.s (.Return (some v) p)):=fun cx C fr A env F S W σ s I L hne =>
 wpAny_Return_some (zS (k:=fun v σ₁=>Rs.ok (Fl.ret v) σ₁) (sound C.base h fr A env F.toFm S).1 I L hne (fun e s' h=>h) fun v c W' σ' s' e st hv=>⟨_,σ',W',Rs.bind_ok e,st,.ret hv⟩)
theorem qUd {sc:Scope}:xG P .nil sc (.l []):=fun cx C fr A env F S W σ s I L _=>wpAny_execs_nil ⟨_,σ,W,rfl,Step.refl I L,.next⟩
theorem qUa {sc:Scope} {a b:S} {x:Stmt} {r:List Stmt} (ia:xG P a sc (.s x)) (ib:xG P b sc (.l r)):xG P (.seq a b) sc (.l (x::r)):=by
 intro cx C fr A env F S
 have Ja:=ia cx C fr A env F S
 have Jb:=ib cx C fr A env F S
 intro W σ s I L hne
 have hev:ex (.seq a b) cx σ=(ex a cx σ).bind fun f σ₁=>zKh f σ₁ (ex b cx):=rfl
 rw [hev] at hne ⊢
 refine wpAny_execs_cons (wpAny_mono (Ja W σ s I L (Rs.bind_ne hne)) (fun f s₁ ⟨v,σ₁,W₁,e₁,st₁,hv⟩=>?_) (fun e s' h=>h.elim))
 rw [Rs.bind_ok e₁] at hne ⊢
 cases hv with
 | next=>exact wpAny_mono (Jb W₁ σ₁ s₁ st₁.inv st₁.loc hne) (fun c s' h=>h.after st₁) fun e s' h=>h.after st₁
 | brk=>exact ⟨_,σ₁,W₁,rfl,st₁,.brk⟩
 | cont=>exact ⟨_,σ₁,W₁,rfl,st₁,.cont⟩
 | ret hv=>exact ⟨_,σ₁,W₁,rfl,st₁,.ret hv⟩
theorem kA {e:Expr} (h:xW e=false) (t:Option Expr) (l:Nat) (env:Env):swapsWith e t l env=pure false:=by
 cases e <;> first | rfl | cases h
theorem qAo (L:Loc P env W σ s.heap):interactive env=false:=by unfold interactive; rw [L.kind]; rfl
theorem qPg {sc:Scope} {e:X} {v:Expr} {p:Pos} (h:Ok e sc (.e v)) (h2:xW v=false):xG P (.expr e) sc (.s (.Expr v p)):=fun cx C fr A env F S W σ s I L hne =>
 wpAny_Expr_any (zS (k:=fun _ σ₁=>Rs.ok Fl.next σ₁) (sound C.base h fr A env F.toFm S).1 I L hne (fun e s' h=>h) fun v c W' σ' s' e st hv=>⟨_,σ',W',Rs.bind_ok e,st,.next⟩) (qAo L) (kA h2 ..)
theorem xT {E:Value→Shared→Prop} (F:FmS P cx.lvl fr A env) (I:Inv P fr W σ.toHp s) (L:Loc P env W σ s.heap) {x:Str} {v:V} {c:Value} (hx:env.kindOf x=some .local) (hv:VR W σ.nxt v c) {Q:Unit→Shared→Prop}
  (hq:∀ s',Step P fr env W σ s W (σ.set x v) s'→Q () s'):wpAny P.M A (storeName env x c) Q E s:=by
 obtain ⟨m,hn,_⟩:=L.loc
 exact wpAny_storeName_local hx hn (fun h' hn' hs'=>hq _ (Step.set I L F.hL hv hx hn hn' hs' rfl rfl)) (by rw [L.kind]; rfl)
theorem qSa (I:Inv P fr W σ.toHp s) (L:Loc P env W σ s.heap) (hL:env.locals∈fr) {x:Str} {v:V} {c:Value} {σ':St} (e:σ.setC x v=some σ') (hv:VR W σ.nxt v c) :
  ∃ k,k < σ.nxt∧σ.cel.lookup x=some k∧((env.kindOf x=some .cell∨env.kindOf x=some .free)→env.cells.lookup x=some (W.ρ k))∧(∃ v₀,s.heap.IsCell (W.ρ k) v₀) ∧
   ∀ s':Shared,s'.heap.IsCell (W.ρ k) (some c)→Heap.SameBut (W.ρ k) s.heap s'.heap→s'.gens=s.gens→s'.os=s.os→Step P fr env W σ s W σ' s':=by
 obtain ⟨k,v0,hk,ho,rfl⟩:=qHe e
 obtain ⟨p,q⟩:=L.cel x k hk
 obtain ⟨_,ob,hg,hr⟩:=I.obj k _ ho
 have hcell:∃ v₀,s.heap.IsCell (W.ρ k) v₀:=by
  cases hr with
  | cell hd _=>exact ⟨_,_,hg,hd⟩
  | nocell hd=>exact ⟨_,_,hg,hd⟩
 refine ⟨k,p,hk,q,hcell,fun s' hc hs hg' ho'=>?_⟩
 obtain ⟨o,e1,d1⟩:=hc
 exact Step.put I L p hL (.cell (some v)) (.cell d1 hv) (fun b o hb e=>(hs.2 b hb).trans e) e1 hg' ho'
theorem qOu {E:Value→Shared→Prop} (F:FmS P cx.lvl fr A env) (I:Inv P fr W σ.toHp s) (L:Loc P env W σ s.heap) {x:Str} {v:V} {c:Value} {σ':St} (e:σ.setC x v=some σ') (hx:env.kindOf x=some .cell) (hv:VR W σ.nxt v c) {Q:Unit→Shared→Prop}
  (hq:∀ s',Step P fr env W σ s W σ' s'→Q () s'):wpAny P.M A (storeName env x c) Q E s:=by
 obtain ⟨k,p,hk,q,⟨v₀,hcell⟩,hst⟩:=qSa I L F.hL e hv
 exact wpAny_storeName_cell L.kind hx (q (.inl hx)) hcell fun h' hc hs=>hq _ (hst _ hc hs rfl rfl)
end
section
variable {P:Par} {fr:List Nat} {A:Around} {env:Env} {W W':Wd} {σ σ':St} {s s':Shared} {cx:Sx}
theorem Step.addLate (st:Step P fr env W σ s W' σ' s') {a:Nat} {o:O} {c:Obj} (hn:s.heap.get? a=none) (e:s'.heap.get? a=some c) (x:Out P fr W' σ'.nxt a) (hr:OR (W'.add σ'.nxt a) (σ'.nxt+1) o c) :
  Step P fr env W σ s (W'.add σ'.nxt a) (σ'.add o) s':=by
 have wl:=W'.add_le σ'.nxt a
 have J:=st.inv
 have ρn:(W'.add σ'.nxt a).ρ σ'.nxt=a:=by show (if σ'.nxt=σ'.nxt then _ else _)=_; rw [if_pos rfl]
 have hlt:∀ k,k < σ'.nxt+1→k=σ'.nxt∨(k < σ'.nxt∧(W'.add σ'.nxt a).ρ k=W'.ρ k):=fun k h=>by
  rcases Nat.lt_succ_iff_lt_or_eq.mp h with h | h
  ·exact .inr ⟨h,wl.ρ k h⟩
  ·exact .inl h
 refine ⟨⟨st.nx.wle.trans st.nx.le wl,Nat.le_succ_of_le st.nx.le,st.nx.live,fun k h1 h2=>?_,st.nx.fzn,st.nx.ext,st.nx.fext⟩,
  ⟨J.keep,fun k h=>?_,fun k h=>?_,fun k h=>?_,fun k h=>?_,fun i j hi hj h=>?_,fun k o' h=>?_,J.frz,J.frB,J.gens,J.os,J.exc,Nat.lt_succ_of_lt J.tab0.1,(wl.ρ 0 J.tab0.1).trans J.tab0.2⟩,?_⟩
 ·rcases hlt k h2 with rfl | ⟨q,r⟩
  ·rw [ρn]; exact hn
  ·rw [r]; exact st.nx.new k h1 q
 ·rcases hlt k h with rfl | ⟨q,r⟩
  ·rw [ρn]; exact x.notB
  ·rw [r]; exact J.old k q
 ·rcases hlt k h with rfl | ⟨q,r⟩
  ·rw [ρn]; exact ⟨_,e⟩
  ·rw [r]; exact J.live k q
 ·rcases hlt k h with rfl | ⟨q,r⟩
  ·rw [ρn]; exact x.notFr
  ·rw [r]; exact J.nofr k q
 ·rcases hlt k h with rfl | ⟨q,r⟩
  ·rw [ρn]; exact x.notFz
  ·rw [r]; exact J.nofz k q
 ·rcases hlt i hi with rfl | ⟨q,r⟩ <;> rcases hlt j hj with rfl | ⟨q',r'⟩
  ·rfl
  ·rw [ρn,r'] at h; exact absurd h.symm (x.notOwn j q')
  ·rw [ρn,r] at h; exact absurd h (x.notOwn i q)
  ·rw [r,r'] at h; exact J.inj i j q q' h
 ·have h':(if k=σ'.nxt then some o else σ'.obj k)=some o':=h
  by_cases hk':k=σ'.nxt
  ·subst hk'
   rw [if_pos rfl] at h'; cases h'
   exact ⟨Nat.lt_succ_self _,c,by rw [ρn]; exact e,hr⟩
  ·rw [if_neg hk'] at h'
   obtain ⟨a',c',b,d⟩:=J.obj k o' h'
   exact ⟨Nat.lt_succ_of_lt a',c',by rw [wl.ρ k a']; exact b,d.mono wl (Nat.le_succ _)⟩
 ·have J':=st.loc
  exact ⟨J'.kind,J'.glob,J'.bns,let ⟨m,a,b⟩:=J'.loc; ⟨m,a,fun x v h=>let ⟨p,c,q,r⟩:=b x v h; ⟨p,c,q,r.mono wl (Nat.le_succ _)⟩⟩,
   fun x k h=>let ⟨p,q⟩:=J'.cel x k h; ⟨Nat.lt_succ_of_lt p,fun hk=>by rw [wl.ρ k p]; exact q hk⟩,
   fun k q h=>let ⟨p,r⟩:=J'.cod k q h; ⟨Nat.lt_succ_of_lt p,by rw [wl.ρ k p]; exact r⟩⟩
set_option genCtorIdx true in
inductive Keep where
 | froze
 | owned
noncomputable def Keep.val (k:Keep) (xs:List V) (σ:St):V:=match k with | .froze=>.list xs | .owned=>.ref σ.nxt
noncomputable def Keep.st (k:Keep) (xs:List V) (σ:St):St:=match k with | .froze=>σ | .owned=>σ.add (.list xs)
theorem Raw.keep (k:Keep) {xs:List V} {a:Nat} (R:Raw P fr env W σ s xs σ' a W' s'):∃ W'',Step P fr env W σ s W'' (k.st xs σ') s'∧VR W'' (k.st xs σ').nxt (k.val xs σ') (.ref a)∧∀ b,b≠a→Out P fr W' σ'.nxt b→Out P fr W'' (k.st xs σ').nxt b:=by
 obtain ⟨ys,n,q1,q2⟩:=R.at_
 have hlen:ys.size≤sizeLine:=by
  have:=q2.length
  rw [Array.length_toList] at this
  have:=R.sz
  lia
 cases k with
 | froze =>
  have wl:Wle σ'.nxt W' (W'.freeze a (listOf ys n)):=⟨fun _ _=>rfl,fun b c e=>by
   show (if b=a then _ else _)=_
   rw [if_neg]; exact e
   rintro rfl; rw [R.out.notFz] at e; cases e⟩
  refine ⟨_,R.st.freezeLate R.new q1 R.out,.list (o:=listOf ys n) (items:=ys) (e:=n) ?_ rfl rfl hlen (q2.mono wl (Nat.le_refl _)) rfl,fun b hb o=>⟨o.notB,o.notFr,?_,o.notOwn⟩⟩
  ·show (if a=a then _ else _)=_
   rw [if_pos rfl]
  ·show (if b=a then _ else _)=_
   rw [if_neg hb]; exact o.notFz
 | owned =>
  have wl:=W'.add_le σ'.nxt a
  have ρn:(W'.add σ'.nxt a).ρ σ'.nxt=a:=by show (if σ'.nxt=σ'.nxt then _ else _)=_; rw [if_pos rfl]
  refine ⟨_,R.st.addLate R.new q1 R.out (.list (q2.mono wl (Nat.le_succ _)) hlen),?_,fun b hb o=>⟨o.notB,o.notFr,o.notFz,fun k hk q=>?_⟩⟩
  ·have h1:VR (W'.add σ'.nxt a) (σ'.nxt+1) (.ref σ'.nxt) (.ref ((W'.add σ'.nxt a).ρ σ'.nxt)):=.ref (Nat.lt_succ_self _)
   rw [ρn] at h1; exact h1
  ·rcases Nat.lt_succ_iff_lt_or_eq.mp hk with h | h
   ·rw [wl.ρ k h] at q; exact o.notOwn k h q
   ·subst h; rw [ρn] at q; exact hb q.symm
set_option genCtorIdx true in
inductive Tgt where
 | loc
 | cel
noncomputable def Tgt.put (t:Tgt) (σ:St) (x:Str) (v:V):Option St:=match t with | .loc=>some (σ.set x v) | .cel=>σ.setC x v
noncomputable def Tgt.kind:Tgt→NameKind
 | .loc=>.local
 | .cel=>.cell
theorem vS {E:Value→Shared→Prop} (t:Tgt) (F:FmS P cx.lvl fr A env) (I:Inv P fr W σ.toHp s) (L:Loc P env W σ s.heap) {x:Str} {v:V} {c:Value} {σ':St} (e:t.put σ x v=some σ') (hx:env.kindOf x=some t.kind) (hv:VR W σ.nxt v c) {Q:Unit→Shared→Prop}
  (hq:∀ s',Step P fr env W σ s W σ' s'→σ'.nxt=σ.nxt→Q () s'):wpAny P.M A (storeName env x c) Q E s:=by
 cases t with
 | loc=>cases e; exact xT F I L hx hv fun s' st=>hq s' st rfl
 | cel =>
  refine qOu F I L e hx hv fun s' st=>hq s' st ?_
  obtain ⟨_,_,_,_,rfl⟩:=qHe e
  rfl
theorem qJn (L:Loc P env W σ s.heap) {x:Str} {p:Pos} {v:Expr} {l:Nat}:∃ b,swapsWith v (some (.Name x p)) l env=pure b:=by
 cases v <;> exact ⟨_,rfl⟩
theorem qIm (C:SxOk P cx) (F:FmS P cx.lvl fr A env) {sc cs:Scope} (S:ScOk sc env) (k:Keep) (t:Tgt) {elt it cond:X} {y:Str} {e i:Expr} {ifs:List Expr} {x:Str} {p pos zp lp:Pos} (hi:Ok it sc (.e i)) (h2:Ok elt cs (.e e)) (h3:Ok cond cs (.ofCond ifs)) (h4:jE y sc cs=true) (h1:jI i=false) (hx:env.kindOf x=some t.kind)
  (I:Inv P fr W σ.toHp s) (L:Loc P env W σ s.heap) (r:Rs Fl) (hr:r=(ev cx.toCx (.comp elt y it cond) σ).bind fun u σ₁=>match u with | .list xs=>zZ (t.put (k.st xs σ₁) x (k.val xs σ₁)) | _=>.bad) (hne:r≠.bad) :
  wpAny P.M A (exec (.Assign [.Name x p] (.ListComp e [⟨.Name y zp,i,ifs,0⟩] cs lp) pos) env) (PostF P fr env W σ s r) NoE s:=by
 have hne':ev cx.toCx (.comp elt y it cond) σ≠.bad:=by rw [hr] at hne; exact Rs.bind_ne hne
 have hE:∀ e s',NoE e s'→NoE e s':=fun e s' h=>h
 have put:∀ {xs:List V} {σ₁:St},ev cx.toCx (.comp elt y it cond) σ=.ok (.list xs) σ₁→∃ σ₂,t.put (k.st xs σ₁) x (k.val xs σ₁)=some σ₂∧r=.ok .next σ₂:=fun {xs σ₁} e=>by
  rw [e] at hr
  have hr':r=zZ (t.put (k.st xs σ₁) x (k.val xs σ₁)):=hr
  cases hp:t.put (k.st xs σ₁) x (k.val xs σ₁) with
  | none=>rw [hp] at hr'; exact absurd hr' hne
  | some σ₂=>rw [hp] at hr'; exact ⟨σ₂,rfl,hr'⟩
 have O:=qMp h4
 obtain ⟨b,hb⟩:=qJn (v:=.ListComp e [⟨.Name y zp,i,ifs,0⟩] cs lp) (x:=x) (p:=p) (l:=pos.line) L
 cases b with
 | false =>
  refine wpAny_Assign_Name ?_ hb
  rw [eval_ListComp]
  refine uS C.base (sound C.base h2) (sound C.base hi) (sound C.base h3) F.toFm S O h1 I L hne' hE fun xs σ₁ a D W₁ s₁ e₁ R=>?_
  obtain ⟨m,hm⟩:=R.ns
  refine ⟨m,hm,fun h' hs=>?_⟩
  obtain ⟨σ₂,hp,hr₂⟩:=put e₁
  obtain ⟨W₂,st₂,hv₂,_⟩:=(R.go F.toFm hs).keep k
  refine vS t F st₂.inv st₂.loc hp hx hv₂ fun s₃ st₃ _=>?_
  rw [hr₂]
  exact ⟨_,σ₂,W₂,rfl,st₂.trans st₃,.next⟩
 | true =>
  rw [exec_Assign_Name_used _ _ _ _ hb]
  refine wpAny_bind (wpAny_standAt (wpAny_bind ?_))
  show wpAny _ A (do let _ ← comprehension (.ListComp e [⟨.Name y zp,i,ifs,0⟩] cs lp) cs env _ (newList []) false (eval i env) (some (assign (.Name x p) env))) _ _ s
  refine wpAny_bind (uS C.base (sound C.base h2) (sound C.base hi) (sound C.base h3) F.toFm S O h1 I L hne' hE fun xs σ₁ a D W₁ s₁ e₁ R=>?_)
  obtain ⟨σ₂,hp,hr₂⟩:=put e₁
  obtain ⟨W₂,st₂,hv₂,hout⟩:=R.raw.keep k
  obtain ⟨m,⟨oC,es,ep,eC,dC,rC⟩⟩:=R.ns
  have oD:=hout D (Ne.symm R.ne) R.outC
  show wpAny _ A (assign (.Name x p) env (.ref a)) _ _ s₁
  refine wpAny_assign_Name (vS t F st₂.inv st₂.loc hp hx hv₂ fun s₃ st₃ hn₃=>?_)
  have hLD:D≠env.locals:=fun q=>R.outC.notFr (q ▸ F.hL)
  have eC₃:s₃.heap.get? D=some oC:=st₃.nx.ext D oC eC hLD R.outC.notFr oD.notOwn
  refine ⟨m,⟨oC,es,ep,eC₃,dC,rC⟩,fun h' hs=>?_⟩
  have oD₃:Out P fr W₂ σ₂.nxt D:=oD.step eC st₃.nx
  have st₄:Step P fr env W σ s W₂ σ₂ { s₃ with heap:=h' }:=(st₂.trans st₃).aside F.hL R.newC oD₃ (fun b o hb e=>(hs.2 b hb).trans e) rfl rfl
  refine wpAny_pure (wpAny_pure ?_)
  rw [hr₂]
  exact ⟨_,σ₂,W₂,rfl,st₄,.next⟩
end
section
variable {P:Par} {fr:List Nat} {A:Around} {env:Env} {W W':Wd} {σ σ':St} {s s':Shared} {cx:Sx}
theorem qRx {c:Cx} {elt it cond:X} {y:Str} {σ:St} {v:V} {σ':St} (h:ev c (.comp elt y it cond) σ=.ok v σ'):∃ xs,v=.list xs:=by
 have hev:=qNw (elt:=elt) (it:=it) (cond:=cond) (x:=y) (σ:=σ) (qEf (cx:=c) (elt:=elt) (it:=it) (cond:=cond) (x:=y) (σ:=σ) (by rw [h]; nofun))
 rw [hev] at h
 ·cases h1:ev c it σ with
  | ok vi σ₁ =>
   rw [h1,Rs.bind_ok rfl] at h
   split at h
   ·rename_i xs _
    cases h2:turns vi xs (qCg c elt y cond σ₁.cel) xs σ₁ with
    | ok vs σ₂ =>
     rw [h2,Rs.bind_ok rfl] at h
     unfold fits at h
     split at h <;> cases h
     exact ⟨_,rfl⟩
    | bad=>rw [h2] at h; cases h
   ·cases h
  | bad=>rw [h1] at h; cases h
theorem qLk {c:Cx} {t:Tgt} {x:Str} {elt it cond:X} {y:Str} {σ:St}:((ev c (.comp elt y it cond) σ).bind fun u σ₁=>qHi u σ₁ fun r σ₂=>zZ (t.put σ₂ x r))=(ev c (.comp elt y it cond) σ).bind fun u σ₁=>match u with | .list xs=>zZ (t.put (Keep.owned.st xs σ₁) x (Keep.owned.val xs σ₁)) | _=>.bad:=by
 cases he:ev c (.comp elt y it cond) σ with
 | ok u σ₁=>obtain ⟨xs,rfl⟩:=qRx he; rfl
 | bad=>rfl
theorem qEi (C:SxOk P cx) (F:FmS P cx.lvl fr A env) {sc:Scope} (S:ScOk sc env) (t:Tgt) {e:X} {v:Expr} {x:Str} {p pos:Pos} (h:Ok e sc (.e v)) (hc:xW v=false) (hx:env.kindOf x=some t.kind)
  (I:Inv P fr W σ.toHp s) (L:Loc P env W σ s.heap) (hne:((ev cx.toCx e σ).bind fun u σ₁=>zZ (t.put σ₁ x u))≠.bad) :
  wpAny P.M A (exec (.Assign [.Name x p] v pos) env) (PostF P fr env W σ s ((ev cx.toCx e σ).bind fun u σ₁=>zZ (t.put σ₁ x u))) NoE s:=by
 refine wpAny_Assign_Name (zS (sound C.base h fr A env F.toFm S).1 I L hne (fun e s' h=>h) fun u c W₁ σ₁ s₁ e₁ st₁ hu=>?_) (kA hc ..)
 rw [Rs.bind_ok e₁] at hne ⊢
 cases hp:t.put σ₁ x u with
 | none=>rw [hp] at hne; exact absurd rfl hne
 | some σ₂=>exact vS t F st₁.inv st₁.loc hp hx hu fun s₂ st₂ _=>⟨_,σ₂,W₁,rfl,st₁.trans st₂,.next⟩
theorem qUg {sc:Scope} {x:Str} {e:X} {v:Expr} {q p:Pos} (h1:sc.names.lookup x=some .local) (h:Ok e sc (.e v)) (hc:xW v=false):xG P (.asg x e) sc (.s (.Assign [.Name x q] v p)) :=
 fun cx C fr A env F S W σ s I L hne=>qEi C F S .loc h hc (S.loc x h1) I L hne
theorem qPl {sc:Scope} {x:Str} {e:X} {v:Expr} {q p:Pos} (h1:sc.names.lookup x=some .cell) (h:Ok e sc (.e v)) (hc:xW v=false):xG P (.asgC x e) sc (.s (.Assign [.Name x q] v p)) :=
 fun cx C fr A env F S W σ s I L hne=>qEi C F S .cel h hc (S.cell x h1) I L hne
theorem qAb (C:SxOk P cx) (F:FmS P cx.lvl fr A env) {sc:Scope} (S:ScOk sc env) {es:X} {l:List Expr} {p:Pos} (h:Ok es sc (.es l)) (I:Inv P fr W σ.toHp s) (L:Loc P env W σ s.heap) (hne:ev cx.toCx (.list es) σ≠.bad) {Q:Value→Shared→Prop} {E:Value→Shared→Prop}
  (hE:∀ e s',NoE e s'→E e s') (hq:∀ xs σ' a W' s',ev cx.toCx (.list es) σ=.ok (.list xs) σ'→Raw P fr env W σ s xs σ' a W' s'→Q (.ref a) s'):wpAny P.M A (eval (.List l p) env) Q E s:=by
 have Je:=(sound C.base h fr A env F.toFm S) p
 have hev:ev cx.toCx (.list es) σ=(ev cx.toCx es σ).bind fun vs σ₁=>kM vs σ₁ fun xs σ₁=>fits xs.length (.ok (.list xs) σ₁):=rfl
 rw [hev] at hne hq
 refine List_ (kT Je.2.2 I L hne hE fun xs cs W' σ' s' e st hv=>?_)
 rw [e] at hne hq
 obtain ⟨hz,r⟩:=qAx hne
 rw [r] at hq
 have hz':cs.length≤sizeLine:=by rw [hv.length]; exact hz
 have nA:s'.heap.get? s'.heap.objs.size=none:=xI _
 have stp:Step P fr env W' σ' s' W' σ' { s' with heap:=s'.heap.push { cls:=.type "list", data:=.seq cs.toArray } }:=Step.push st.inv st.loc _ rfl rfl rfl
 refine wpAny_newObj_type (hq xs σ' _ W' _ rfl ⟨st.trans stp,?_,Out.new st.inv nA,⟨cs.toArray,0,Heap.get?_push_size _ rfl,by simpa using hv⟩,hz⟩) (by show cs.toArray.size≤sizeLine; rw [List.size_toArray]; exact hz')
 cases q:s.heap.get? s'.heap.objs.size with
 | none=>rfl
 | some o=>obtain ⟨o',e'⟩:=st.nx.live _ _ q; rw [nA] at e'; cases e'
theorem zIh (C:SxOk P cx) (F:FmS P cx.lvl fr A env) {sc:Scope} (S:ScOk sc env) (t:Tgt) {es:X} {l:List Expr} {x:Str} {p pos r:Pos} (h:Ok es sc (.es l)) (hx:env.kindOf x=some t.kind)
  (I:Inv P fr W σ.toHp s) (L:Loc P env W σ s.heap) (hne:((ev cx.toCx (.list es) σ).bind fun u σ₁=>qHi u σ₁ fun r σ₂=>zZ (t.put σ₂ x r))≠.bad) :
  wpAny P.M A (exec (.Assign [.Name x p] (.List l r) pos) env) (PostF P fr env W σ s ((ev cx.toCx (.list es) σ).bind fun u σ₁=>qHi u σ₁ fun r σ₂=>zZ (t.put σ₂ x r))) NoE s:=by
 refine wpAny_Assign_Name (qAb C F S h I L (Rs.bind_ne hne) (fun e s' h=>h.elim) fun xs σ₁ a W₁ s₁ e₁ R=>?_) (kA rfl ..)
 rw [Rs.bind_ok e₁] at hne ⊢
 have hr:qHi (.list xs) σ₁ (fun r σ₂=>zZ (t.put σ₂ x r))=zZ (t.put (Keep.owned.st xs σ₁) x (Keep.owned.val xs σ₁)):=rfl
 rw [hr] at hne ⊢
 obtain ⟨W₂,st₂,hv₂,_⟩:=R.keep .owned
 cases hp:t.put (Keep.owned.st xs σ₁) x (Keep.owned.val xs σ₁) with
 | none=>rw [hp] at hne; exact absurd rfl hne
 | some σ₂=>exact vS t F st₂.inv st₂.loc hp hx hv₂ fun s₃ st₃ _=>⟨_,σ₂,W₂,rfl,st₂.trans st₃,.next⟩
theorem qUc {sc:Scope} {x:Str} {es:X} {l:List Expr} {q p r:Pos} (h1:sc.names.lookup x=some .local) (h:Ok es sc (.es l)):xG P (.own x (.list es)) sc (.s (.Assign [.Name x q] (.List l r) p)) :=
 fun cx C fr A env F S W σ s I L hne=>zIh C F S .loc h (S.loc x h1) I L hne
section
variable {sc cs:Scope} {elt it cond:X} {y:Str} {e i:Expr} {ifs:List Expr} {x:Str} {p q zp lp:Pos} (hi:Ok it sc (.e i)) (h2:Ok elt cs (.e e)) (h3:Ok cond cs (.ofCond ifs)) (h4:jE y sc cs=true) (h5:jI i=false)
include hi h2 h3 h4 h5
theorem qPc (h1:sc.names.lookup x=some .local):xG P (.own x (.comp elt y it cond)) sc (.s (.Assign [.Name x q] (.ListComp e [⟨.Name y zp,i,ifs,0⟩] cs lp) p)) :=
 fun cx C fr A env F S W σ s I L hne=>qIm C F S .owned .loc hi h2 h3 h4 h5 (S.loc x h1) I L _ (qLk (c:=cx.toCx) (t:=.loc) (x:=x) (elt:=elt) (it:=it) (cond:=cond) (y:=y) (σ:=σ)) hne
end
theorem qPa {sc:Scope} {o:X} {f:Str} {e:X} {t v:Expr} {p pos:Pos} (h1:Ok o sc (.e t)) (h2:Ok e sc (.e v)) (h3:xW v=false):xG P (.setA o f e) sc (.s (.Assign [.Attribute t f p] v pos)):=by
 intro cx C fr A env F S
 intro W σ s I L hne
 have hev:ex (.setA o f e) cx σ=(ev cx.toCx e σ).bind fun v σ₁=>(ev cx.toCx o σ₁).bind fun vo σ₂=>zZ ((cx.setA vo f v σ₂.toHp).map fun H=>{ σ₂ with toHp:=H }):=rfl
 rw [hev] at hne ⊢
 refine plainObj_wpAny_Assign_Attribute (qTe (sound C.base h2 fr A env F.toFm S).1 (sound C.base h1 fr A env F.toFm S).1 I L hne (fun e s' h=>h) fun W₂ σ₂ s₂ u w cu cw e₂ st₂ hu hw=>?_) (kA h3 ..)
 rw [e₂] at hne ⊢
 cases hp:cx.setA w f u σ₂.toHp with
 | none=>rw [hp] at hne; exact absurd rfl hne
 | some Hn=>exact C.setA fr A env F.toFm W₂ σ₂ s₂ st₂.inv st₂.loc w f u cw cu Hn hw hu hp _ _ fun W₃ s₃ st₃=>⟨_,_,W₃,rfl,st₂.trans st₃,.next⟩
end
section
variable {P:Par} {fr:List Nat} {A:Around} {env:Env} {W W':Wd} {σ σ':St} {s s':Shared} {cx:Sx}
theorem qYd {v:V} {σ:St} {t e:St→Rs Fl} (h:condS v σ t e≠.bad):(zT σ.toHp v=some true∧condS v σ t e=t σ)∨(zT σ.toHp v=some false∧condS v σ t e=e σ):=by
 unfold condS at h ⊢
 revert h
 split <;> intro h
 ·rename_i q; exact .inl ⟨q,rfl⟩
 ·rename_i q; exact .inr ⟨q,rfl⟩
 ·exact absurd rfl h
theorem qNv {c:Cx} {e:X} {t f:St→Rs Fl} {σ:St} (h:((ev c e σ).bind fun v σ₁=>condS v σ₁ t f)≠.bad):tr (ev c e) σ≠.bad:=by
 cases hf:ev c e σ with
 | ok v σ₁ =>
  rw [hf] at h
  rw [jR hf]
  rcases qYd (h:condS v σ₁ _ _≠.bad) with ⟨q,_⟩ | ⟨q,_⟩ <;> rw [zE q] <;> intro q' <;> cases q'
 | bad=>rw [hf] at h; exact absurd rfl h
theorem qUe {sc:Scope} {c:X} {a b:S} {t:Expr} {x y:List Stmt} {pos:Pos} (h1:Ok c sc (.e t)) (ia:xG P a sc (.l x)) (ib:xG P b sc (.l y)):xG P (.ite c a b) sc (.s (.If t x y pos)):=by
 intro cx C fr A env F S
 have Ja:=ia cx C fr A env F S
 have Jb:=ib cx C fr A env F S
 intro W σ s I L hne
 have hev:ex (.ite c a b) cx σ=(ev cx.toCx c σ).bind fun v σ₁=>condS v σ₁ (ex a cx) (ex b cx):=rfl
 rw [hev] at hne ⊢
 refine wpAny_If (uX (sound C.base h1 fr A env F.toFm S).2 I L (qNv hne) fun bb v σ' W' s' e hb st=>?_)
 rw [Rs.bind_ok e] at hne ⊢
 cases bb with
 | true =>
  rw [if_pos rfl]
  have r:condS v σ' (ex a cx) (ex b cx)=ex a cx σ':=by unfold condS; rw [hb]
  rw [r] at hne ⊢
  exact wpAny_mono (Ja W' σ' s' st.inv st.loc hne) (fun c s' h=>h.after st) fun e s' h=>h.after st
 | false =>
  rw [if_neg (by decide)]
  have r:condS v σ' (ex a cx) (ex b cx)=ex b cx σ':=by unfold condS; rw [hb]
  rw [r] at hne ⊢
  exact wpAny_mono (Jb W' σ' s' st.inv st.loc hne) (fun c s' h=>h.after st) fun e s' h=>h.after st
theorem qGy {sc:Scope} {e:X} {t:Expr} {pos:Pos} (h:Ok e sc (.e t)):xG P (.assert e) sc (.s (.Assert t none pos)):=by
 intro cx C fr A env F S
 intro W σ s I L hne
 have hev:ex (.assert e) cx σ=(ev cx.toCx e σ).bind fun v σ₁=>condS v σ₁ (fun σ₁=>.ok .next σ₁) (fun _=>.bad):=rfl
 rw [hev] at hne ⊢
 have J:=(sound C.base h fr A env F.toFm S).2
 refine wpAny_Assert_holds (uX J I L (qNv hne) fun bb v σ' W' s' e hb st=>?_)
 rw [Rs.bind_ok e] at hne ⊢
 cases bb with
 | true=>exact ⟨rfl,_,σ',W',by unfold condS; rw [hb],st,.next⟩
 | false =>
  have r:condS v σ' (fun σ₁=>Rs.ok Fl.next σ₁) (fun _=>.bad)=.bad:=by unfold condS; rw [hb]
  exact absurd r hne
end
section
variable {P:Par} {fr:List Nat} {A:Around} {env:Env} {W W':Wd} {σ σ':St} {s s':Shared} {cx:Sx}
theorem qSq {c:St→Rs Bool} {b o:St→Rs Fl} {test:Expr} {body orelse:List Stmt} (hc:OkB P fr A env (isTrue test env (eval test env)) c) (hb:OkS P fr A env (execs body env) b) (ho:OkS P fr A env (execs orelse env) o)
  (n:Nat) (I:Inv P fr W σ.toHp s) (L:Loc P env W σ s.heap) (hne:vH c b o n σ≠.bad) {pos:Pos} :
  wpAny P.M A (exec (.While test body orelse pos) env) (PostF P fr env W σ s (vH c b o n σ)) NoE s:=by
 refine wpAny_While ?_
 generalize hr:vH c b o n σ=r at hne
 refine codeAny_whileLoop (fun k s'=>∃ W' σ',Step P fr env W σ s W' σ' s'∧vH c b o k σ'=r) ?_ n ⟨W,σ,Step.refl I L,hr⟩
 rintro k s₁ ⟨W₁,σ₁,st₁,h₁⟩
 cases k with
 | zero=>exact absurd (h₁.symm.trans rfl) hne
 | succ k =>
  replace h₁:(c σ₁).bind (fun t σ=>if t=true then (b σ).bind (uU (vH c b o k)) else o σ)=r:=h₁
  have hcne:c σ₁≠.bad:=by intro q; rw [q] at h₁; exact hne h₁.symm
  refine wpAny_mono (hc W₁ σ₁ s₁ st₁.inv st₁.loc hcne) (fun bb s₂ ⟨σ₂,W₂,e₂,st₂⟩=>?_) (fun e s' h=>h.elim)
  rw [e₂] at h₁
  have st:=st₁.trans st₂
  cases bb with
  | true =>
   rw [if_pos rfl]
   replace h₁:(b σ₂).bind (uU (vH c b o k))=r:=h₁
   have hbne:b σ₂≠.bad:=by intro q; rw [q] at h₁; exact hne h₁.symm
   refine wpAny_mono (hb W₂ σ₂ s₂ st.inv st.loc hbne) (fun f s₃ ⟨fl,σ₃,W₃,e₃,st₃,hf⟩=>?_) (fun e s' h=>h.elim)
   rw [e₃] at h₁
   cases hf with
   | next=>exact ⟨k,Nat.lt_succ_self _,W₃,σ₃,st.trans st₃,h₁⟩
   | cont=>exact ⟨k,Nat.lt_succ_self _,W₃,σ₃,st.trans st₃,h₁⟩
   | brk=>exact ⟨_,σ₃,W₃,h₁.symm,st.trans st₃,.next⟩
   | ret hv=>exact ⟨_,σ₃,W₃,h₁.symm,st.trans st₃,.ret hv⟩
  | false =>
   rw [if_neg (by decide)]
   replace h₁:o σ₂=r:=h₁
   refine wpAny_mono (ho W₂ σ₂ s₂ st.inv st.loc (by rw [h₁]; exact hne)) (fun f s₃ hf=>?_) (fun e s' h=>h.elim)
   rw [← h₁]
   exact hf.after st
theorem qPf {sc:Scope} {n:Nat} {c:X} {b o:S} {t:Expr} {x y:List Stmt} {pos:Pos} (h1:Ok c sc (.e t)) (ib:xG P b sc (.l x)) (io:xG P o sc (.l y)):xG P (.loop n c b o) sc (.s (.While t x y pos)) :=
 fun cx C fr A env F S W σ s I L hne=>qSq (sound C.base h1 fr A env F.toFm S).2 (ib cx C fr A env F S) (io cx C fr A env F S) n I L hne
inductive EachAt (P:Par) (fr:List Nat) (env:Env) (W:Wd) (σ:St) (s:Shared) (v:V) (xs:List V) (Ia:Nat) (b:V→St→Rs Fl) (r:Rs Fl) (k:Nat) (s':Shared):Prop where
 | mk (W':Wd) (σ':St) (j:Nat) (h1:k=xs.length+1 - j) (h2:j≤xs.length) (h3:Step P fr env W σ s W' σ' s') (h4:Out P fr W' σ'.nxt Ia) (h5:ItAt W' σ'.nxt s'.heap Ia v j) (h6:kZ v xs b (xs.drop j) σ'=r)
theorem zFm {b:V→St→Rs Fl} {b':St→Rs Fl} {tg:Expr} {body:List Stmt} (hh:A.handled=none) (F:FmS P cx.lvl fr A env)
  (ha:∀ W σ s y c,Inv P fr W σ.toHp s→Loc P env W σ s.heap→VR W σ.nxt y c→b y σ≠.bad→∀ (Q:Unit→Shared→Prop) (E:Value→Shared→Prop),(∀ s' σ',Step P fr env W σ s W σ' s'→σ'.nxt=σ.nxt→b y σ=b' σ'→Q () s')→wpAny P.M A (assign tg env c) Q E s)
  (hgo:∀ (s:Shared) (σ:St) (W:Wd) (n:Nat) (u v:V) (i Ia:Nat) (c:Value) (Q:Unit→Shared→Prop) (E:Value→Shared→Prop),ItAt W n s.heap Ia v i→b u σ≠.bad→VR W σ.nxt u c→Q () s→wpAny P.M A (letOwnedTupleGo tg (.ref Ia) c) Q E s)
  (hb:OkS P fr A env (execs body env) b') {v:V} {cv:Value} {xs:List V} (hv:VR W σ.nxt v cv)
  (I:Inv P fr W σ.toHp s) (L:Loc P env W σ s.heap) (hne:kZ v xs b xs σ≠.bad) {E:Value→Shared→Prop} :
  wpAny P.M A (pyIter cv) (fun it s₂=>codeAny P.M A (.forLoop tg it body [] env) (fun r s'=>match r with | .ok f=>PostF P fr env W σ s (kZ v xs b xs σ) f s' | .error e=>cameBackBy P.M A env E e s') s₂) E s:=by
 have hits:=qIh hne
 generalize hr:kZ v xs b xs σ=r at hne
 refine qBv I hv hits fun ob hit=>?_
 have nI:s.heap.get? s.heap.objs.size=none:=xI _
 have oI:Out P fr W σ.nxt s.heap.objs.size:=Out.new I nI
 have st₀:Step P fr env W σ s W σ { s with heap:=s.heap.push ob }:=Step.push I L _ rfl rfl rfl
 generalize hIa:s.heap.objs.size=Ia at hit nI oI
 refine codeAny_forLoop_any (EachAt P fr env W σ s v xs Ia b r) ?_ (xs.length+1) ⟨W,σ,0,rfl,Nat.zero_le _,st₀,oI,hit,hr⟩
 rintro k s₁ ⟨W₁,σ₁,j,rfl,hj,st₁,o₁,it₁,h₁⟩
 have hits₁:xL σ₁.toHp v=some xs:=qIh (b:=b) (l:=xs.drop j) (by rw [h₁]; exact hne)
 cases hxj:xs[j]? with
 | none =>
  have hd:xs.drop j=[]:=List.drop_of_length_le (List.getElem?_eq_none_iff.mp hxj)
  rw [hd] at h₁
  rw [qIi hits₁] at h₁
  refine qHt hh st₁.inv it₁ hits₁ hxj fun h' hk=>wpAny_execs_nil ?_
  refine ⟨_,σ₁,W₁,h₁.symm,st₁.aside F.hL nI o₁ (fun b o hb e=>hk b o hb e) rfl rfl,.next⟩
 | some y =>
  have hlt:j < xs.length:=(List.getElem?_eq_some_iff.mp hxj).1
  have hd:xs.drop j=y::xs.drop (j+1):=by
   rw [List.drop_eq_getElem_cons hlt,(List.getElem?_eq_some_iff.mp hxj).2]
  rw [hd] at h₁
  rw [qNt hits₁] at h₁
  refine qDv st₁.inv it₁ hits₁ hxj fun c h₂ t₂ hvc hit₂ hs₂=>?_
  have st₂:Step P fr env W σ s W₁ σ₁ { s₁ with heap:=h₂,toks:=t₂ }:=st₁.aside F.hL nI o₁ (fun b o hb e=>(hs₂.2 b hb).trans e) rfl rfl
  have hby:b y σ₁≠.bad:=by intro q; rw [q] at h₁; exact hne h₁.symm
  refine hgo _ σ₁ W₁ _ y v (j+1) Ia c _ _ hit₂ hby hvc ?_
  refine ha W₁ σ₁ _ y c st₂.inv st₂.loc hvc hby _ _ fun s₃ σ₂ st₃ en eb=>?_
  rw [eb] at h₁ hby
  have st₃':=st₂.trans st₃
  obtain ⟨oI₂,eI₂⟩:=hit₂.there
  have hIL:Ia≠env.locals:=fun q=>o₁.notFr (q ▸ F.hL)
  have o₃:Out P fr W₁ σ₂.nxt Ia:=by rw [en]; exact o₁
  have it₃:ItAt W₁ σ₂.nxt s₃.heap Ia v (j+1):=hit₂.mono (.refl ..) (Nat.le_of_eq en.symm) fun o e=>st₃.nx.ext Ia o e hIL o₁.notFr o₁.notOwn
  refine wpAny_mono (hb W₁ σ₂ s₃ st₃.inv st₃.loc hby) (fun f s₄ ⟨fl,σ₄,W₄,e₄,st₄,hf⟩=>?_) (fun e s' h=>h.elim)
  rw [e₄] at h₁
  obtain ⟨oI₃,eI₃⟩:=it₃.there
  have st₅:=st₃'.trans st₄
  have o₄:=o₃.step eI₃ st₄.nx
  have it₄:ItAt W₄ σ₄.nxt s₄.heap Ia v (j+1):=it₃.mono st₄.nx.wle st₄.nx.le fun o e=>st₄.nx.ext Ia o e hIL o₃.notFr o₃.notOwn
  cases hf with
  | next=>exact ⟨xs.length+1 - (j+1),by lia,W₄,σ₄,j+1,rfl,hlt,st₅,o₄,it₄,h₁⟩
  | cont=>exact ⟨xs.length+1 - (j+1),by lia,W₄,σ₄,j+1,rfl,hlt,st₅,o₄,it₄,h₁⟩
  | brk=>exact ⟨_,σ₄,W₄,h₁.symm,st₅,.next⟩
  | ret hv=>exact ⟨_,σ₄,W₄,h₁.symm,st₅,.ret hv⟩
theorem qPh {sc:Scope} {x:Str} {it:X} {b:S} {i:Expr} {z:List Stmt} {px pos:Pos} (h1:sc.names.lookup x=some .local) (h2:Ok it sc (.e i)) (ib:xG P b sc (.l z)) (h4:jI i=false):xG P (.each x it b) sc (.s (.For (.Name x px) i z [] pos)):=by
 intro cx C fr A env F S
 intro W σ s I L hne
 have hcm:cx.calm=false:=by
  cases h:cx.calm with
  | false=>rfl
  | true=>exact absurd (if_pos h) hne
 have hh:A.handled=none:=F.handled.plain (C.base.cal hcm)
 have hev:ex (.each x it b) cx σ=(ev cx.toCx it σ).bind fun v σ₁=>match xL σ₁.toHp v with
   | some xs=>kZ v xs (fun u σ=>ex b cx (σ.set x u)) xs σ₁
   | none=>.bad:=if_neg (by rw [hcm]; decide)
 rw [hev] at hne ⊢
 refine wpAny_For (zS (sound C.base h2 fr A env F.toFm S).1 I L hne (fun e s' h=>h) fun v cv W₁ σ₁ s₁ e₁ st₁ hv=>?_) (qMv h4)
 rw [Rs.bind_ok e₁] at hne ⊢
 revert hne
 split <;> intro hne
 ·rename_i xs hxs
  refine wpAny_mono (zFm (E:=NoE) hh F (fun W σ s y c I L hy _ Q E hq=>wpAny_assign_Name (xT F I L (S.loc x h1) hy fun s' st=>hq s' _ st rfl rfl)) (fun s σ W n u v i Ia c Q E _ _ _ h=>wpAny_pure h) (ib cx C fr A env F S) hv st₁.inv st₁.loc hne) (fun it s₂ h=>codeAny_mono h fun r s' hr=>?_) fun _ _ e=>e
  cases r with
  | ok f=>exact PostF.after st₁ hr
  | error e=>exact hr
 ·exact absurd rfl hne
end
section
variable {P:Par} {fr:List Nat} {A:Around} {env:Env} {W W':Wd} {σ σ':St} {s s':Shared} {E:Value→Shared→Prop}
theorem qDa:entryFor table "proto.unchain" = some Builtin.«proto.unchain»:=entryFor_of_tree (by kernel_rfl)
theorem qTd (H:HdOk P A) (hx:∀ e ob,P.ex=some (e,ob)→s.heap.get? e=some ob) {a:Addr} {o:Obj} {vs:Array Value} (hn:∀ e ob,P.ex=some (e,ob)→e≠a) (ha:s.heap.get? a=some o) (hd:o.data=.fields vs) (h2:2 < vs.size) {α:Type} {Q:α→Shared→Prop}
  (hE:∀ h',(∀ b o',b≠a→s.heap.get? b=some o'→h'.get? b=some o')→(∃ o',h'.get? a=some o'∧o'.cls=o.cls)→E (.ref a) { s with heap:=h' }):wpAny P.M A (raiseNew (.ref a):Sem α) Q E s:=by
 rcases H with ⟨_,hh⟩ | ⟨e,ob,h1,⟨us,g1,g2⟩,h3⟩
 ·exact wpAny_raiseNew_none hh (hE s.heap (fun b o' _ q=>q) ⟨o,ha,rfl⟩)
 ·unfold raiseNew
  refine wpAny_bind (wpAny_handled ?_)
  rw [h3]
  dsimp only
  have he:(Value.ref e != Value.ref a)=true:=by simpa using hn e ob h1
  rw [if_pos he]
  refine wpAny_bind (wpAny_holding (wpAny_runValue (codeAny_builtin qDa ?_)))
  show wpAny _ _ (field (.ref e) 2 >>= _) _ _ s
  refine wpAny_bind (wpAny_field (hx e ob h1) g1 g2 ?_)
  show wpAny _ _ (if (Value.none == Value.none)=true then _ else _) _ _ s
  rw [if_pos (by decide)]
  refine wpAny_pure ?_
  refine wpAny_bind ?_
  unfold updateField
  refine wpAny_bind (wpAny_load ha ?_)
  rw [hd]
  dsimp only
  rw [if_pos h2]
  refine wpAny_update ha (wpAny_throw (hE _ (fun b o' hb q=>(Heap.get?_update_other _ _ (Ne.symm hb)).trans q) ⟨_,Heap.get?_update_self _ ha (Obj.isFreed_of_fields (Obj.data_mapFields hd _)),Obj.cls_mapFields ..⟩))
theorem qZn (H:HdOk P A) (hx:∀ e ob,P.ex=some (e,ob)→s.heap.get? e=some ob) {it t:Addr} {i:Nat} {items:Array Value} {Q:Option Value→Shared→Prop} (hi:∀ e ob,P.ex=some (e,ob)→e≠it)
  (hit:IsTupIter s.heap it t i) (ht:IsTup s.heap t items) (he:items[i]? = none) (hQ:∀ h',Heap.ExtBut it s.heap h'→Q none { s with heap:=h' }):wpAny P.M A (pyNext (.ref it)) Q E s:=by
 obtain ⟨o,ho,hc,hd⟩:=id hit
 obtain ⟨ol,hol,_,nl,hdl⟩:=ht
 unfold pyNext
 refine wpAny_bind (wpAny_attempt (wpAny_callSpecial?_slot (name:=Str.ofString "__next__") hit.typeIs slot_tupleiter_next (wpAny_call_entry slot_tupleiter_next hit.typeIs entry_tupleiter_next ?_ (args_tupleiter_next _))))
 show wpAny _ _ (field (.ref it) 0 >>= _) _ _ s
 refine wpAny_bind (wpAny_field ho hd (x:=.ref t) rfl ?_)
 show wpAny _ _ (if (Value.ref t == Value.none)=true then _ else _) _ _ s
 rw [if_neg (show ¬ ((Value.ref t == Value.none)=true) from Bool.false_ne_true)]
 show wpAny _ _ (field (.ref it) 1 >>= _) _ _ s
 refine wpAny_bind (wpAny_field ho hd (x:=.int i 0) rfl ?_)
 show wpAny _ _ (seqItems? (.ref t) >>= _) _ _ s
 refine wpAny_bind (wpAny_seqItems hol hdl ?_)
 simp only [Int.toNat_natCast,he]
 refine wpAny_bind (wpAny_rule (wpAny_bind (wpAny_setField ho hd (by simp) ?_)))
 show wpAny _ _ (newExc (.type "StopIteration") [] >>= _) _ _ _
 refine wpAny_bind ?_
 simp only [newExc,newTuple]
 refine wpAny_bind (wpAny_newObj_type ?_ (by size_fits))
 refine wpAny_bind (m:=firstArgMember _ _) (wpAny_of_eq (a:=Value.none) (by first | rfl | (simp only [firstArgMember]; rfl)) ?_)
 refine wpAny_newObj_type ?_ (by size_fits)
 have old:∀ b o',b≠it→s.heap.get? b=some o'→(((s.heap.update it (Obj.mapFields (·.setIfInBounds 0 Value.none))).push { cls:=.type "tuple", data:=.seq #[] }).get? b=some o'):=fun b o' hb q =>
  Heap.get?_push_of_some _ ((Heap.get?_update_other _ _ (Ne.symm hb)).trans q)
 refine qTd (P:=P) (A:=A.in1) H (fun e ob q=>Heap.get?_push_of_some _ (old e ob (hi e ob q) (hx e ob q))) (fun e ob q hq=>?_) (Heap.get?_push_size _ rfl) rfl (by rw [Array.size_append]; exact Nat.lt_of_lt_of_le (show 2 < 6 by decide) (Nat.le_add_right 6 _)) fun h' hk hs=>?_
 ·have:=Heap.lt_size (old e ob (hi e ob q) (hx e ob q))
  rw [hq] at this
  exact Nat.lt_irrefl _ this
 ·obtain ⟨o',e1,e2⟩:=hs
  refine wpAny_bind (wpAny_isInstance (T:="StopIteration") (b:=true) ⟨o',e1,e2⟩ isSubtype_stop ?_)
  refine wpAny_pure (hQ _ fun b o'' hb q=>hk b o'' (fun hq=>?_) (Heap.get?_push_of_some _ (old b o'' hb q)))
  have:=Heap.lt_size (old b o'' hb q)
  rw [hq] at this
  exact Nat.lt_irrefl _ this
theorem qJb (H:HdOk P A) (hx:∀ e ob,P.ex=some (e,ob)→s.heap.get? e=some ob) {t:Addr} {items:Array Value} {Q:List Value→Shared→Prop} (ht:IsTup s.heap t items)
  (hQ:∀ h',Heap.ExtBut s.heap.objs.size s.heap h'→Q items.toList { s with heap:=h' }):wpAny P.M A (unpackItems (.ref t) items.size none) Q E s:=by
 have hlt:t≠s.heap.objs.size:=by obtain ⟨o,ho,_⟩:=ht; exact Nat.ne_of_lt (Heap.lt_size ho)
 unfold unpackItems
 refine wpAny_bind ?_
 unfold notIterableAtAll
 refine wpAny_bind (wpAny_specialOf ht.typeIs slot_tuple_iter.lookup (wpAny_pure ?_))
 rw [if_neg (by decide)]
 refine wpAny_bind (wpAny_holding (iter_tuple ht ?_))
 refine wpAny_bind (wpAny_holding (draw_tuple hlt items.size 0 _ _ ⟨_,Heap.get?_push_size _ rfl,rfl,rfl⟩ (ht.push _) (Nat.le_of_eq (Nat.zero_add _)) fun h₁ hit₁ hs₁=>?_))
 have hall:List.take items.size (List.drop 0 items.toList)=items.toList:=by
  rw [List.drop_zero]; exact List.take_of_length_le (by simp)
 rw [hall,if_neg (by simp)]
 have ht₁:IsTup h₁ t items:=(ht.push _).extBut hs₁.extBut hlt
 refine wpAny_bind (wpAny_holding (qZn H (fun e ob q=>?_) (fun e ob q hq=>?_) hit₁ ht₁ (by simp) fun h₂ he₂=>?_))
 ·have h0:=hx e ob q
  exact hs₁.extBut e ob (Nat.ne_of_lt (Heap.lt_size h0)) (Heap.get?_push_of_some _ h0)
 ·have:=Heap.lt_size (hx e ob q)
  rw [hq] at this
  exact Nat.lt_irrefl _ this
 ·rw [if_neg (by decide)]
  exact wpAny_pure (hQ h₂ fun b o hb e=>he₂ b o hb (hs₁.extBut b o hb (Heap.get?_push_of_some _ e)))
end
section
variable {P:Par} {fr:List Nat} {A:Around} {env:Env} {W W':Wd} {σ σ':St} {s s':Shared} {cx:Sx}
theorem qEz {v:V} {k:V→V→Rs Fl} (h:jO v k≠.bad):∃ a b,qKr v=some [a,b]∧jO v k=k a b:=by
 unfold jO at h ⊢
 split at h
 ·rename_i a b e; exact ⟨a,b,e,rfl⟩
 ·exact absurd rfl h
theorem qFa (H:HdOk P A) (I:Inv P fr W σ.toHp s) (L:Loc P env W σ s.heap) {v a b:V} {c:Value} (h:VR W σ.nxt v c) (e:qKr v=some [a,b]):∃ t ca cb,c=.ref t∧VR W σ.nxt a ca∧VR W σ.nxt b cb ∧
  ∀ {E:Value→Shared→Prop} {Q:List Value→Shared→Prop},(∀ s',Step P fr env W σ s W σ s'→Q [ca,cb] s')→wpAny P.M A (unpackItems (.ref t) 2 none) Q E s:=by
 cases h with
 | tup h1 h2 h3 h4 h5 =>
  cases e
  rename_i t o items e
  obtain ⟨l⟩:=items
  obtain ⟨ca,cb,e2,x,y⟩:=VRs.inv2 h5
  have e3:l=[ca,cb]:=e2
  subst e3
  exact ⟨t,ca,cb,rfl,x,y,fun hQ=>qJb H (items:=#[ca,cb]) (fun e ob q=>(I.frz _ _ (I.exc e ob q)).1) ⟨o,(I.frz _ _ h1).1,h2,e,h3⟩ fun h' hx=>hQ _ (Step.grow I L (fun b o e=>hx b o (Nat.ne_of_lt (Heap.lt_size e)) e) rfl rfl)⟩
 | _=>cases e
theorem qLv {x y:Str} {f:St→Rs V} {q₁ q₂ q p:Pos} {k:Nat} {v:Expr} (F:FmS P cx.lvl fr A env) (hx:env.kindOf x=some .local) (hy:env.kindOf y=some .local) (J:OkE P fr A env (eval v env) f)
  (hsw:swapsWithSole [.Tuple [.Name x q₁,.Name y q₂] k q] v p.line env=pure false) (hw:swappedStores [.Tuple [.Name x q₁,.Name y q₂] k q] v env=pure none) :
  OkS P fr A env (exec (.Assign [.Tuple [.Name x q₁,.Name y q₂] k q] v p) env) (fun σ=>(f σ).bind fun v σ₁=>jO v fun a b=>.ok .next ((σ₁.set x a).set y b)):=by
 intro W σ s I L hne
 refine Assign_Tuple (zS J I L hne (fun e s' h=>h) fun u c W₁ σ₁ s₁ e₁ st₁ hv=>?_) hsw hw
 dsimp only at hne
 rw [Rs.bind_ok e₁] at hne
 have hb:=Rs.bind_ok (f:=fun v σ₁=>jO v fun a b=>Rs.ok Fl.next ((σ₁.set x a).set y b)) e₁
 obtain ⟨a,b,hp,hr⟩:=qEz hne
 obtain ⟨t,ca,cb,rfl,ha,hb',hU⟩:=qFa F.handled st₁.inv st₁.loc hv hp
 rw [assign_Tuple]
 refine wpAny_bind (wpAny_standAt ?_)
 unfold unpack
 refine wpAny_bind (wpAny_holding (hU fun s₂ st₂=>?_))
 show wpAny P.M A (do holding [cb] (assign (.Name x q₁) env ca); (do holding [] (assign (.Name y q₂) env cb); pure ())) _ _ _
 refine wpAny_bind (wpAny_holding (wpAny_assign_Name (xT F st₂.inv st₂.loc hx ha fun s₃ st₃=>?_)))
 refine wpAny_bind (wpAny_holding (wpAny_assign_Name (xT F st₃.inv st₃.loc hy hb' fun s₄ st₄=>?_)))
 exact wpAny_pure ⟨_,_,W₁,hb.trans hr,((st₁.trans st₂).trans st₃).trans st₄,.next⟩
theorem qPm {sc:Scope} {x y:Str} {e:X} {q₁ q₂ q p r:Pos} {k:Nat} {g:Expr} {as:List Expr} {ks:List Keyword} (h1:sc.names.lookup x=some .local) (h2:sc.names.lookup y=some .local) (h:Ok e sc (.e (.Call g as ks r))) :
  xG P (.asg2 x y e) sc (.s (.Assign [.Tuple [.Name x q₁,.Name y q₂] k q] (.Call g as ks r) p)):=fun cx C fr A env F S =>
 qLv F (S.loc x h1) (S.loc y h2) (sound C.base h fr A env F.toFm S).1 (by unfold swapsWithSole; rfl) rfl
theorem Step.swap {x y:Str} {a b:V} (hxy:x≠y) (st:Step P fr env W σ s W' ((σ'.set y b).set x a) s'):Step P fr env W σ s W' ((σ'.set x a).set y b) s':=by
 refine ⟨st.nx,st.inv,⟨st.loc.kind,st.loc.glob,st.loc.bns,?_,st.loc.cel,st.loc.cod⟩⟩
 obtain ⟨m,h1,h2⟩:=st.loc.loc
 refine ⟨m,h1,fun z v hz=>h2 z v ?_⟩
 have hz':(wU y b (wU x a σ'.loc)).lookup z=some v:=hz
 show (wU x a (wU y b σ'.loc)).lookup z=some v
 rw [zA,zA] at hz' ⊢
 by_cases h1:z=x
 ·subst h1; rw [if_pos rfl]; rw [if_neg hxy,if_pos rfl] at hz'; exact hz'
 ·rw [if_neg h1]
  by_cases h2:z=y
  ·rw [if_pos h2] at hz' ⊢; exact hz'
  ·rw [if_neg h2] at hz' ⊢; rw [if_neg h1] at hz'; exact hz'
theorem qJo {env:Env} {x y:Str} {q₁ q₂ q r:Pos} {k k':Nat} {a b:Expr} (hf:qEo a b=true) (h4:x≠y) (h5:q₁.line=q₂.line) (hbk:env.blockKind=.function) (hx:env.kindOf x=some .local) (hy:env.kindOf y=some .local) :
  swappedStores [.Tuple [.Name x q₁,.Name y q₂] k q] (.Tuple [a,b] k' r) env=pure (some [x,y]):=by
 unfold qEo at hf
 simp only [Bool.and_eq_true,Bool.not_eq_true'] at hf
 obtain ⟨⟨⟨hsa,hsb⟩,hff⟩,hcc⟩:=hf
 have hdup:([x,y]:List Str).eraseDups.length=2:=by
  have hb:(y == x)=false:=by simpa using Ne.symm h4
  simp [List.eraseDups_cons,hb]
 have k0:(env.kindOf x == some NameKind.local && q₁.line == q₁.line)=true:=by rw [hx]; simp
 have k1:(env.kindOf y == some NameKind.local && q₂.line == q₁.line)=true:=by rw [hy]; simp [h5]
 have hm:∀ g:Expr→Option Str,g (.Name x q₁)=some x→g (.Name y q₂)=some y→[Expr.Name x q₁,.Name y q₂].filterMap g=[x,y]:=fun g e1 e2=>by
  rw [List.filterMap_cons_some e1,List.filterMap_cons_some e2]; rfl
 have any:∀ g:Expr→Bool,g a=false→g b=false→¬ ([a,b].any g=true):=fun g e1 e2=>by
  show ¬ ((g a || (g b || false))=true)
  rw [e1,e2]; decide
 have all:∀ g:Expr→Bool,(g a && g b)=false→¬ ([a,b].all g=true):=fun g e=>by
  show ¬ ((g a && (g b && true))=true)
  rw [Bool.and_true,e]; decide
 delta swappedStores
 show (if (!([Expr.Name x q₁,.Name y q₂].length == 2 || [Expr.Name x q₁,.Name y q₂].length == 3) || [a,b].length != [Expr.Name x q₁,.Name y q₂].length || env.blockKind != .function)=true then _ else _)=_
 rw [hbk]
 refine (if_neg (fun q=>Bool.noConfusion (show false=true from q))).trans ?_
 refine (if_neg (any _ hsa hsb)).trans ?_
 dsimp only
 rw [hm _ (if_pos k0) (if_pos k1),hdup]
 refine (if_neg (fun q=>Bool.noConfusion (show false=true from q))).trans ?_
 refine (if_neg (all _ hff)).trans ?_
 exact if_neg (all _ hcc)
theorem qFz {x y:Str} {f:St→Rs V} {q₁ q₂ q p:Pos} {k:Nat} {v:Expr} (F:FmS P cx.lvl fr A env) (hx:env.kindOf x=some .local) (hy:env.kindOf y=some .local) (hxy:x≠y) (J:OkE P fr A env (eval v env) f)
  (hsw:swapsWithSole [.Tuple [.Name x q₁,.Name y q₂] k q] v p.line env=pure false) (hw:swappedStores [.Tuple [.Name x q₁,.Name y q₂] k q] v env=pure (some [x,y])) :
  OkS P fr A env (exec (.Assign [.Tuple [.Name x q₁,.Name y q₂] k q] v p) env) (fun σ=>(f σ).bind fun v σ₁=>jO v fun a b=>.ok .next ((σ₁.set x a).set y b)):=by
 intro W σ s I L hne
 refine Assign_Tuple_swapped (names:=[x,y]) (zS J I L hne (fun e s' h=>h) fun u c W₁ σ₁ s₁ e₁ st₁ hv=>?_) hsw hw
 dsimp only at hne
 rw [Rs.bind_ok e₁] at hne
 have hb:=Rs.bind_ok (f:=fun v σ₁=>jO v fun a b=>Rs.ok Fl.next ((σ₁.set x a).set y b)) e₁
 obtain ⟨a,b,hp,hr⟩:=qEz hne
 obtain ⟨t,ca,cb,rfl,ha,hb',hU⟩:=qFa F.handled st₁.inv st₁.loc hv hp
 refine hU fun s₂ st₂=>?_
 show wpAny P.M A (do holding [ca] (bindName env y cb); (do holding [] (bindName env x ca); pure ())) _ _ _
 refine wpAny_bind (wpAny_holding (bindName_ (xT F st₂.inv st₂.loc hy hb' fun s₃ st₃=>?_)))
 refine wpAny_bind (wpAny_holding (bindName_ (xT F st₃.inv st₃.loc hx ha fun s₄ st₄=>?_)))
 exact wpAny_pure ⟨_,_,W₁,hb.trans hr,Step.swap hxy (((st₁.trans st₂).trans st₃).trans st₄),.next⟩
theorem qJt {sc:Scope} {x y:Str} {e:X} {q₁ q₂ q p r:Pos} {k k':Nat} {a b:Expr} (h1:sc.names.lookup x=some .local) (h2:sc.names.lookup y=some .local) (h:Ok e sc (.e (.Tuple [a,b] k' r))) (hf:qEo a b=true) (h4:(x != y && q₁.line == q₂.line)=true) :
  xG P (.asg2 x y e) sc (.s (.Assign [.Tuple [.Name x q₁,.Name y q₂] k q] (.Tuple [a,b] k' r) p)):=by
 intro cx C fr A env F S
 simp only [Bool.and_eq_true,bne_iff_ne,beq_iff_eq] at h4
 intro W σ s I L hne
 have hbk:env.blockKind=.function:=by unfold Env.blockKind; rw [L.kind]; rfl
 exact qFz F (S.loc x h1) (S.loc y h2) h4.1 (sound C.base h fr A env F.toFm S).1 (by unfold swapsWithSole; rfl) (qJo hf h4.1 h4.2 hbk (S.loc x h1) (S.loc y h2)) W σ s I L hne
end
section
variable {P:Par} {fr:List Nat} {A:Around} {env:Env} {W W':Wd} {σ σ':St} {s s':Shared} {cx:Sx}
noncomputable def putA (cx:Sx) (o:X) (f:Str) (v:V) (σ:St):Rs Fl:=(ev cx.toCx o σ).bind fun vo σ₂=>zZ ((cx.setA vo f v σ₂.toHp).map fun H=>{ σ₂ with toHp:=H })
theorem qEy (C:SxOk P cx) (F:FmS P cx.lvl fr A env) {sc:Scope} (S:ScOk sc env) {o:X} {t:Expr} {f:Str} {p:Pos} (h1:Ok o sc (.e t)) (I:Inv P fr W σ.toHp s) (L:Loc P env W σ s.heap) {v:V} {c:Value} (hv:VR W σ.nxt v c) (hne:putA cx o f v σ≠.bad) {Q:Unit→Shared→Prop}
  (hq:∀ W' σ' s',putA cx o f v σ=.ok .next σ'→Step P fr env W σ s W' σ' s'→Q () s'):wpAny P.M A (assign (.Attribute t f p) env c) Q NoE s:=by
 unfold putA at hne hq
 rw [PySem.assign_Attribute]
 refine wpAny_bind (wpAny_holding (zS (sound C.base h1 fr A env F.toFm S).1 I L hne (fun e s' h=>h) fun vo co W₁ σ₁ s₁ e₁ st₁ hvo=>?_))
 rw [Rs.bind_ok e₁] at hne hq
 refine wpAny_bind (wpAny_standAt ?_)
 refine wpAny_bind (wpAny_holding ?_)
 cases hp:cx.setA vo f v σ₁.toHp with
 | none=>rw [hp] at hne; exact absurd rfl hne
 | some Hn =>
  rw [hp] at hq
  exact C.setA fr A env F.toFm W₁ σ₁ s₁ st₁.inv st₁.loc vo f v co c Hn hvo (hv.mono st₁.nx.wle st₁.nx.le) hp _ _ fun W₃ s₃ st₃=>wpAny_release' (hq W₃ _ s₃ rfl (st₁.trans st₃))
theorem qPk {sc:Scope} {x y:Str} {e:X} {q₁ q₂ p:Pos} {v:Expr} (h1:sc.names.lookup x=some .local) (h2:sc.names.lookup y=some .local) (h:Ok e sc (.e v)):xG P (.asgs x y e) sc (.s (.Assign [.Name x q₁,.Name y q₂] v p)):=by
 intro cx C fr A env F S W σ s I L hne
 have hev:ex (.asgs x y e) cx σ=(ev cx.toCx e σ).bind fun v σ₁=>.ok .next ((σ₁.set x v).set y v):=rfl
 rw [hev] at hne ⊢
 refine wpAny_Assign_two (zS (sound C.base h fr A env F.toFm S).1 I L hne (fun e s' h=>h) fun u c W₁ σ₁ s₁ e₁ st₁ hu=>?_)
 rw [Rs.bind_ok e₁]
 refine wpAny_assign_Name (xT F st₁.inv st₁.loc (S.loc x h1) hu fun s₂ st₂=>?_)
 exact wpAny_assign_Name (xT F st₂.inv st₂.loc (S.loc y h2) hu fun s₃ st₃=>⟨_,_,W₁,rfl,(st₁.trans st₂).trans st₃,.next⟩)
theorem qPd {sc:Scope} {o:X} {f x:Str} {es:X} {t:Expr} {q₁ q₂ r p:Pos} {l:List Expr} (h1:sc.names.lookup x=some .local) (h2:Ok o sc (.e t)) (h:Ok es sc (.es l)):xG P (.ownA o f x (.list es)) sc (.s (.Assign [.Attribute t f q₁,.Name x q₂] (.List l r) p)):=by
 intro cx C fr A env F S W σ s I L hne
 have hev:ex (.ownA o f x (.list es)) cx σ=(ev cx.toCx (.list es) σ).bind fun v σ₁=>qHi v σ₁ fun r σ₂=>(ev cx.toCx o σ₂).bind fun vo σ₃=>zZ ((cx.setA vo f r σ₃.toHp).map fun H=>({ σ₃ with toHp:=H }:St).set x r):=rfl
 rw [hev] at hne ⊢
 refine wpAny_Assign_two (qAb C F S h I L (Rs.bind_ne hne) (fun e s' h=>h.elim) fun xs σ₁ a W₁ s₁ e₁ R=>?_)
 rw [Rs.bind_ok e₁] at hne ⊢
 obtain ⟨W₂,st₂,hv₂,_⟩:=R.keep .owned
 have hr:∀ k,qHi (.list xs) σ₁ k=k (.ref σ₁.nxt) (σ₁.add (.list xs)):=fun k=>rfl
 rw [hr] at hne ⊢
 have hv₂':VR W₂ (σ₁.add (.list xs)).nxt (.ref σ₁.nxt) (.ref a):=hv₂
 have st₂':Step P fr env W σ s W₂ (σ₁.add (.list xs)) s₁:=st₂
 have hn:putA cx o f (.ref σ₁.nxt) (σ₁.add (.list xs))≠.bad:=fun q=>hne (by
  unfold putA at q
  cases hvo:ev cx.toCx o (σ₁.add (.list xs)) with
  | bad=>rfl
  | ok vo σ₃ =>
   rw [Rs.bind_ok hvo] at q
   show zZ ((cx.setA vo f (.ref σ₁.nxt) σ₃.toHp).map fun H=>({ σ₃ with toHp:=H }:St).set x (.ref σ₁.nxt))=.bad
   cases hp:cx.setA vo f (.ref σ₁.nxt) σ₃.toHp with
   | none=>rfl
   | some H=>rw [hp] at q; cases q)
 refine qEy C F S h2 st₂'.inv st₂'.loc hv₂' hn fun W₃ σ₃ s₃ e₃ st₃=>?_
 refine wpAny_assign_Name (xT F st₃.inv st₃.loc (S.loc x h1) (hv₂'.mono st₃.nx.wle st₃.nx.le) fun s₄ st₄=>?_)
 refine ⟨_,_,W₃,?_,(st₂'.trans st₃).trans st₄,.next⟩
 unfold putA at e₃
 cases hvo:ev cx.toCx o (σ₁.add (.list xs)) with
 | bad=>rw [hvo] at e₃; cases e₃
 | ok vo σ₅ =>
  rw [Rs.bind_ok hvo] at e₃
  show zZ ((cx.setA vo f (.ref σ₁.nxt) σ₅.toHp).map fun H=>({ σ₅ with toHp:=H }:St).set x (.ref σ₁.nxt))=_
  cases hp:cx.setA vo f (.ref σ₁.nxt) σ₅.toHp with
  | none=>rw [hp] at e₃; cases e₃
  | some H=>rw [hp] at e₃; cases e₃; rfl
theorem qJs {sc:Scope} {o o':X} {f f':Str} {e:X} {t t':Expr} {q₁ q₂ q r p:Pos} {k k':Nat} {a b:Expr} (h1:Ok o sc (.e t)) (h2:Ok o' sc (.e t')) (h:Ok e sc (.e (.Tuple [a,b] k' r))) :
  xG P (.setA2 o f o' f' e) sc (.s (.Assign [.Tuple [.Attribute t f q₁,.Attribute t' f' q₂] k q] (.Tuple [a,b] k' r) p)):=by
 intro cx C fr A env F S W σ s I L hne
 have hev:ex (.setA2 o f o' f' e) cx σ=(ev cx.toCx e σ).bind fun v σ₁=>jO v fun a b=>(putA cx o f a σ₁).bind fun _ σ₃=>putA cx o' f' b σ₃:=by
  show (ev cx.toCx e σ).bind _=_
  congr 1
  funext v σ₁
  congr 1
  funext a b
  unfold putA
  cases ev cx.toCx o σ₁ <;> rfl
 rw [hev] at hne ⊢
 have hsw:swappedStores [.Tuple [.Attribute t f q₁,.Attribute t' f' q₂] k q] (.Tuple [a,b] k' r) env=pure none:=by
  delta swappedStores
  dsimp only
  split
  ·rfl
  ·split
   ·rfl
   ·rfl
 refine Assign_Tuple (zS (sound C.base h fr A env F.toFm S).1 I L hne (fun e s' h=>h) fun u c W₁ σ₁ s₁ e₁ st₁ hv=>?_) (by unfold swapsWithSole; rfl) hsw
 rw [Rs.bind_ok e₁] at hne
 have hb:=Rs.bind_ok (f:=fun v σ₁=>jO v fun a b=>(putA cx o f a σ₁).bind fun _ σ₃=>putA cx o' f' b σ₃) e₁
 obtain ⟨va,vb,hp,hr⟩:=qEz hne
 rw [hr] at hne hb
 obtain ⟨tt,ca,cb,rfl,ha,hb',hU⟩:=qFa F.handled st₁.inv st₁.loc hv hp
 rw [assign_Tuple]
 refine wpAny_bind (wpAny_standAt ?_)
 unfold unpack
 refine wpAny_bind (wpAny_holding (hU fun s₂ st₂=>?_))
 show wpAny P.M A (do holding [cb] (assign (.Attribute t f q₁) env ca); (do holding [] (assign (.Attribute t' f' q₂) env cb); pure ())) _ _ _
 refine wpAny_bind (wpAny_holding (qEy C F S h1 st₂.inv st₂.loc ha (Rs.bind_ne hne) fun W₃ σ₃ s₃ e₃ st₃=>?_))
 rw [Rs.bind_ok e₃] at hne hb
 refine wpAny_bind (wpAny_holding (qEy C F S h2 st₃.inv st₃.loc (hb'.mono st₃.nx.wle st₃.nx.le) hne fun W₄ σ₄ s₄ e₄ st₄=>?_))
 exact wpAny_pure ⟨_,_,W₄,hb.trans e₄,((st₁.trans st₂).trans st₃).trans st₄,.next⟩
end
section
variable {P:Par} {fr:List Nat} {A:Around} {env:Env} {W W':Wd} {σ σ':St} {s s':Shared} {cx:Sx}
theorem qWe {M:Model} {A:Around} {i:String} {s:Shared}:vB M A (.type i) s:=fun E Q hq=>wpAny_pure (hq _)
theorem qVy {v:V} (h:qNc v=true):v=.top (.type "list"):=by
 unfold qNc at h
 split at h
 ·rw [eq_of_beq h]
 ·cases h
theorem qPe {sc:Scope} {c:Bool} {x:Str} {e:X} {q r p:Pos} {n a:Expr} (h1:sc.names.lookup x=some (if c=true then .cell else .local)) (hg:Ok (.glob "list") sc (.e n)) (h:Ok e sc (.e a)) (hs:yI a=false) (hn:∃ y q,n=.Name y q):xG P (.ownL c x e) sc (.s (.Assign [.Name x q] (.Call n [a] [] r) p)):=by
 obtain ⟨y,qn,rfl⟩:=hn
 intro cx C fr A env F S W σ s I L hne
 have hev:ex (.ownL c x e) cx σ=(ev cx.toCx (.glob "list") σ).bind fun vf σ₀=>(ev cx.toCx (.cons e .nil) σ₀).bind fun vs σ₁=>kM vs σ₁ (qMw c x vf):=rfl
 rw [hev] at hne ⊢
 have Jf:=sound C.base hg fr A env F.toFm S
 have Ja:=(qGx (sound C.base h) qMn hs fr A env F.toFm S) r
 refine wpAny_Assign_Name ?_ (by rfl)
 show wpAny P.M A (do callWith r (← eval (.Name y qn) env) [] (backTo r (starEach [a] env)) []) _ _ s
 refine wpAny_bind (zS Jf.1 I L hne (fun e s' h=>h) fun vf cf W₁ σ₁ s₁ e₁ st₁ hvf=>?_)
 rw [Rs.bind_ok e₁] at hne ⊢
 refine xF Ja.1 (kT (k:=qMw c x vf) Ja.2.2 st₁.inv st₁.loc hne (fun e s' h=>h) fun xs cs W₂ σ₂ s₂ e₂ st₂ hvs=>?_)
 rw [e₂] at hne ⊢
 have st:=st₁.trans st₂
 unfold qMw at hne ⊢
 by_cases hl:qNc vf=true
 ·rw [if_pos hl] at hne ⊢
  obtain rfl:=qVy hl
  obtain rfl:=hvf.inv_top
  match xs,hvs,hne with
  | [v],hvs,hne =>
   obtain ⟨cv,rfl,hv⟩:=hvs.inv1
   dsimp only at hne ⊢
   cases hx:qM σ₂.toHp v with
   | none=>rw [hx] at hne; exact absurd rfl hne
   | some ys =>
    obtain ⟨b,items,rfl,hL,hr,hz⟩:=zV st.inv hv hx
    refine ⟨qWe,?_⟩
    obtain ⟨o,ho,hc,nn,hd⟩:=hL
    refine call_list_seq b (.inl rfl) ho hc hd (fun h' c' hk hnew=>?_) hz
    have R:Raw P fr env W₂ σ₂ s₂ ys σ₂ s₂.heap.objs.size W₂ { s₂ with heap:=h' } :=
     ⟨Step.grow st.inv st.loc hk rfl rfl,xI _,Out.new st.inv (xI _),⟨items,c',hnew,hr⟩,by rw [← hr.length,Array.length_toList]; exact hz⟩
    obtain ⟨W₃,st₃,hv₃,_⟩:=R.keep .owned
    have st₃':Step P fr env W₂ σ₂ s₂ W₃ (σ₂.add (.list ys)) { s₂ with heap:=h' }:=st₃
    have hv₃':VR W₃ (σ₂.add (.list ys)).nxt (.ref σ₂.nxt) (.ref s₂.heap.objs.size):=hv₃
    have hne':zZ (qUv c (σ₂.add (.list ys)) x (.ref σ₂.nxt))≠.bad:=by rw [hx] at hne; exact hne
    cases hp:qUv c (σ₂.add (.list ys)) x (.ref σ₂.nxt) with
    | none=>rw [hp] at hne'; exact absurd rfl hne'
    | some σ₃=>
     have hp':(if c=true then Tgt.cel else Tgt.loc).put (σ₂.add (.list ys)) x (.ref σ₂.nxt)=some σ₃:=by
      rw [← hp]; unfold qUv; cases c <;> rfl
     have hk:env.kindOf x=some (if c=true then Tgt.cel else Tgt.loc).kind:=by
      cases c
      ·exact S.loc x h1
      ·exact S.cell x h1
     exact vS _ F st₃'.inv st₃'.loc hp' hk hv₃' fun s₄ st₄ _=>⟨_,σ₃,W₃,by show zZ (qUv c (σ₂.add (.list ys)) x (.ref σ₂.nxt))=_; rw [hp]; rfl,(st.trans st₃').trans st₄,.next⟩
 ·rw [if_neg hl] at hne
  exact absurd rfl hne
end
section
variable {P:Par} {fr:List Nat} {A:Around} {env:Env} {W W':Wd} {σ σ':St} {s s':Shared} {cx:Sx}
theorem VRs.dropLast {W:Wd} {n:Nat} {xs:List V} {cs:List Value} (h:VRs W n xs cs):VRs W n xs.dropLast cs.dropLast:=by
 rw [List.dropLast_eq_take,List.dropLast_eq_take,h.length]
 exact h.take _
theorem seq_last (n:Nat):seqIndex? (-1) (n+1)=some n:=by
 have e:(if (-1:Int) < 0 then (-1:Int)+((n+1:Nat):Int) else -1)=(n:Int):=by rw [if_pos (by decide)]; lia
 unfold seqIndex?
 rw [e]
 exact (if_pos (by rw [Bool.and_eq_true]; exact ⟨decide_eq_true (Int.natCast_nonneg n),decide_eq_true (by lia)⟩)).trans (congrArg some (Int.toNat_natCast _))
theorem qPi {sc:Scope} {x:Str} {q p₁ p₂ p₃ p:Pos} {k:Nat} (h:(zL x && sc.names.lookup x == some .local)=true) :
  xG P (.delL x) sc (.s (.Delete [.Subscript (.Name x q) (.UnaryOp .USub (.Constant (.int 1) k p₁) p₂) p₃] p)):=by
 intro cx C fr A env F S W σ s I L hne
 have hne':qRv x σ≠.bad:=hne
 show wpAny _ _ _ (PostF P fr env W σ s (qRv x σ)) _ _
 unfold qRv at hne' ⊢
 split at hne'
 ·rename_i j hl
  split at hne'
  ·rename_i y ys ho
   have e1:ev cx.toCx (.var x) σ=.ok (.ref j) σ:=by
    show (match σ.loc.lookup x with | some v=>Rs.ok v σ | Option.none=>.bad)=_
    rw [hl]
   have e2:∀ σ,ev cx.toCx (.neg (.int 1)) σ=.ok (.int (-1)) σ:=fun σ=>rfl
   refine wpAny_Delete (wpAny_deleteEach_cons ?_)
   rw [arm_delete_Subscript]
   refine wpAny_bind (wpAny_mono ((sound C.base (.var h) fr A env F.toFm S).1 W σ s I L (by rw [e1]; nofun)) (fun c₁ s₁ ⟨v₁,σ₁,W₁,q₁,st₁,hv₁⟩=>?_) fun e s' h=>h.elim)
   rw [e1] at q₁; cases q₁
   refine wpAny_bind (wpAny_holding (wpAny_mono ((sound C.base (.neg .int) fr A env F.toFm S).1 W₁ σ s₁ st₁.inv st₁.loc (by rw [e2]; nofun)) (fun c₂ s₂ ⟨v₂,σ₂,W₂,q₂,st₂,hv₂⟩=>?_) fun e s' h=>h.elim))
   rw [e2] at q₂; cases q₂
   have st12:=st₁.trans st₂
   obtain ⟨rfl,hk⟩:=hv₁.inv_ref
   obtain ⟨u,rfl⟩:=hv₂.inv_int
   obtain ⟨_,ob,hg,hr⟩:=st₂.inv.obj j _ ho
   obtain ⟨items,e,rfl,r,z⟩:=hr.inv_list
   have hsz:items.size=ys.length+1:=by
    have:=r.length
    rw [Array.length_toList] at this
    exact this
   have hρ:W₁.ρ j=W₂.ρ j:=(st₂.nx.wle.ρ j hk).symm
   rw [hρ]
   refine wpAny_bind (wpAny_standAt (wpAny_bind (wpAny_holding (delItem_at (n:=e) hg (by decide) (by rw [hsz]; exact seq_last _) (fun h' hs hg'=>?_) z))))
   refine wpAny_release (wpAny_deleteEach_nil ?_)
   have hit:(items.toList.eraseIdx ys.length).toArray.toList=items.toList.dropLast:=by
    have hl':items.toList.length=ys.length+1:=by rw [Array.length_toList]; exact hsz
    show items.toList.eraseIdx ys.length=_
    rw [List.dropLast_eq_take,hl',Nat.add_sub_cancel,List.eraseIdx_eq_take_drop_succ,List.drop_of_length_le (by rw [hl']; exact Nat.le_refl _),List.append_nil]
   have st3:=Step.put st₂.inv st₂.loc (k:=j) (s':={ s₂ with heap:=h' }) (st₂.inv.obj j _ ho).1 F.hL (.list (y::ys).dropLast) (.list (items:=(items.toList.eraseIdx ys.length).toArray) (e:=e+1) (by rw [hit]; exact r.dropLast) (by
    rw [List.size_toArray]; exact Nat.le_trans (List.length_eraseIdx_le _ _) (by rw [Array.length_toList]; exact z))) (fun b o hb e'=>(hs.2 b hb).trans e') hg' rfl rfl
   exact ⟨_,_,W₂,rfl,st12.trans st3,.next⟩
  ·exact absurd rfl hne'
 ·exact absurd rfl hne'
end
section
variable {P:Par} {fr:List Nat} {A:Around} {env:Env} {W W':Wd} {σ σ':St} {s s':Shared} {cx:Sx}
theorem zKw:isSubtype (.type "AssertionError") (.type "BaseException")=pure true:=by rw [isSubtype_type]; kernel_rfl
theorem zFy:isSubtype (.type ((Manifest.find? "AssertionError").elim "type" fun x=>x.metatype)) (.type "tuple")=pure false:=by rw [isSubtype_type]; kernel_rfl
theorem zFx:isSubtype (.type "AssertionError") (.type "AssertionError")=pure true:=by rw [isSubtype_type]; kernel_rfl
theorem zKx {v:V} (h:asT v=true):v=.top (.type "AssertionError"):=by
 cases v with
 | top c=>cases c with
  | type n=>rw [eq_of_beq (show (n == "AssertionError")=true from h)]
  | _=>cases h
 | _=>cases h
theorem zLa {α:Type} {o:Option α} {f:α→Bool} (h:¬ (o.any f=false)):∃ a,o=some a∧f a=true:=by
 cases o with
 | none=>exact absurd rfl h
 | some a=>exact ⟨a,rfl,by simpa using h⟩
theorem qHl (C:SxOk P cx) (F:FmS P cx.lvl fr A env) (hc:P.ex=none) {sc:Scope} (S:ScOk sc env) {o as:X} {m:Str} {e:Expr} {l:List Expr} {apos p:Pos} (jo:Ok o sc (.e e)) (ja:Ok as sc (.es l)) (h3:qCq e) (h45:(decide (l.length < 30) && apos.endLine == p.line)=true) (I:Inv P fr W σ.toHp s) (L:Loc P env W σ s.heap)
  {vo:V} {σ₁:St} {pr:V×List V} (e₁:ev cx.toCx o σ=.ok vo σ₁) (hget:cx.get vo m σ₁.toHp=some pr)
  (hne:((ev cx.toCx as σ₁).bind fun vs σ₂=>kM vs σ₂ fun xs σ₂=>zZ ((cx.exc pr.1 (pr.2++xs) σ₂.toHp).map fun H=>{ σ₂ with toHp:=H }))≠.bad) :
  wpAny P.M A (eval (.Call (.Attribute e m apos) l [] p) env) (fun _ _=>False) (fun x s'=>∃ (W':Wd) (ea:Addr) (σ₂:St) (H:Hp),x=.ref ea∧((ev cx.toCx as σ₁).bind fun vs σ₂=>kM vs σ₂ fun xs σ₂=>zZ ((cx.exc pr.1 (pr.2++xs) σ₂.toHp).map fun H=>{ σ₂ with toHp:=H }))=.ok .next { σ₂ with toHp:=H } ∧
   Step P fr env W σ s W' { σ₂ with toHp:=H } s'∧ExcAt P fr W' H.nxt s.heap s'.heap ea "AssertionError") s:=by
 obtain ⟨vf,first⟩:=pr
 simp only [Bool.and_eq_true,decide_eq_true_eq,beq_iff_eq] at h45
 obtain ⟨h4,h5⟩:=h45
 have Ja:=(sound C.base ja fr A env F.toFm S) p
 have hform:methodCallForm (l.length+([]:List Keyword).length) (backTo p (starEach l env)) (backToKw p (keywordEach [] env))=true:=by
  unfold methodCallForm
  have q:(backTo p (starEach l env)).all (fun x=>!x.1)=true:=by
   rw [List.all_eq_true]
   intro x hx
   have:=List.any_eq_false.mp Ja.1 x hx
   simpa using this
  rw [q]
  show (true && true && decide (l.length+0+0 < 30))=true
  simpa using h4
 have hpos:methodCallPos true e env apos p=pure p:=by unfold methodCallPos; simp [h5]
 show wpAny P.M A (do
  let ov ← attributeBase e m env (eval e env)
  standAt apos.atName
  methodCall e m apos p env ov (l.length+([]:List Keyword).length) (backTo p (starEach l env)) (backToKw p (keywordEach [] env))) _ _ s
 rw [h3]
 refine wpAny_bind (wpAny_mono ((sound C.base jo fr A env F.toFm S).1 W σ s I L (by rw [e₁]; nofun)) (fun co s₁ ⟨v,σ',W₁,q,st₁,hvo⟩=>wpAny_bind (wpAny_standAt ?_)) fun e s' h=>h.elim)
 rw [e₁] at q; cases q
 unfold methodCall
 rw [hform]
 refine wpAny_bind (wpAny_holding (C.base.get fr A env F.toFm W₁ σ₁ s₁ st₁.inv st₁.loc vo m co vf first hvo hget _ _ _ fun r s₂ W₂ st₂ hf hfi=>?_))
 refine wpAny_bind (wpAny_of_eq hpos ?_)
 have st:=st₁.trans st₂
 refine xF Ja.1 (kT (k:=fun xs σ₂=>zZ ((cx.exc vf (first++xs) σ₂.toHp).map fun H=>{ σ₂ with toHp:=H })) Ja.2.2 st.inv st.loc hne (fun e s' h=>h.elim) fun xs cs W₃ σ₃ s₃ e₃ st₃ hvs=>?_)
 have st':=st.trans st₃
 cases hx:cx.exc vf (first++xs) σ₃.toHp with
 | none=>rw [hx] at e₃; exact absurd e₃ hne
 | some H =>
  rw [hx] at e₃
  obtain ⟨k1,k2⟩:=C.exc fr A env F.toFm hc W₃ σ₃ s₃ st'.inv st'.loc vf (first++xs) r.1 (r.2++cs) H (hf.mono st₃.nx.wle st₃.nx.le) ((hfi.mono st₃.nx.wle st₃.nx.le).append hvs) hx
  exact ⟨k1,wpAny_mono k2 (fun _ _ h=>h) fun x s' ⟨W₄,ea,h1,st₄,h4⟩=>⟨W₄,ea,σ₃,H,h1,e₃,st'.trans st₄,h4.older st'.nx.live⟩⟩
theorem qOz {sc:Scope} {o as:X} {m:Str} {t:Expr} {l:List Expr} {ap r p₁:Pos} {v:Option Expr} {rp:Pos} {c:Str} {px pp ph p:Pos} (ho:Ok o sc (.e t)) (ha:Ok as sc (.es l)) (h3:qCq t) (h45:(decide (l.length < 30) && ap.endLine == r.line)=true)
  (hcn:(c == ("AssertionError" : Str) && sc.names.lookup c == some .globalImplicit)=true) :
  xG P (.tryA o m as) sc (.s (.Try [.Expr (.Call (.Attribute t m ap) l [] r) p₁,.Return v rp] [.ExceptHandler (some (.Name c px)) Option.none [.Pass pp] ph] [] [] p)):=by
 simp only [Bool.and_eq_true,beq_iff_eq] at hcn
 obtain ⟨hc1,hc2⟩:=hcn
 intro cx C fr A env F S W σ s I L hne
 have hev:ex (.tryA o m as) cx σ=if cx.calm=true∨(cx.gl "AssertionError").any asT=false then Rs.bad else (ev cx.toCx o σ).bind fun vo σ₁=>(cx.get vo m σ₁.toHp).elim .bad fun p=>(ev cx.toCx as σ₁).bind fun vs σ₂=>kM vs σ₂ fun xs σ₂ =>
   zZ ((cx.exc p.1 (p.2++xs) σ₂.toHp).map fun H=>{ σ₂ with toHp:=H }):=rfl
 rw [hev] at hne ⊢
 by_cases hg:cx.calm=true∨(cx.gl "AssertionError").any asT=false
 ·rw [if_pos hg] at hne; exact absurd rfl hne
 rw [if_neg hg] at hne ⊢
 have hcalm:P.ex=none:=C.base.cal (by
  cases q:cx.calm with
  | false=>rfl
  | true=>exact absurd (.inl q) hg)
 obtain ⟨vi,hvi,hti⟩:=zLa (fun q=>hg (.inr q))
 obtain rfl:=zKx hti
 cases e₁:ev cx.toCx o σ with
 | bad=>rw [e₁] at hne; exact absurd rfl hne
 | ok vo σ₁ =>
 rw [e₁,Rs.bind_ok rfl] at hne
 rw [Rs.bind_ok rfl]
 obtain ⟨pr,hget⟩:=xE hne
 rw [hget] at hne ⊢
 dsimp only [Option.elim] at hne ⊢
 have hin:interactive env=false:=by unfold interactive; rw [L.kind]; rfl
 refine wpAny_Try_except (wpAny_execs_cons ?_)
 rw [exec_Expr env _ p₁ hin rfl]
 refine wpAny_bind (wpAny_standAt (wpAny_bind (wpAny_mono (qHl C F hcalm S ho ha h3 h45 I L e₁ hget hne) (fun _ _ h=>h.elim) fun ev s₁ ⟨W₁,ea,σ₂,H,h0,hr,st₁,x₁⟩=>?_)))
 subst h0
 rw [hr]
 refine zGr F st₁.inv x₁ st₁.nx.live fun h' N=>?_
 have st₂:Step P fr env W σ s W₁ { σ₂ with toHp:=H } { s₁ with heap:=h' }:=st₁.noted F.hL N
 have x₂:=N.exc
 generalize hs₂:({ s₁ with heap:=h' }:Shared)=s₂ at st₂
 have x₂':ExcAt P fr W₁ H.nxt s.heap s₂.heap ea "AssertionError" := by rw [← hs₂]; exact x₂
 obtain ⟨cc,mg,mb,q1,q2,q3,q4⟩:=C.base.gl _ _ hvi
 obtain rfl:cc=.type "AssertionError" := (q4 W₁ 0).inv_top
 have hgl:=st₂.loc.glob
 have hbn:=st₂.loc.bns
 have hk:=S.glob c hc2
 subst hc1
 have nm:∀ {A':Around} {Q':Value→Shared→Prop} {E':Value→Shared→Prop},Q' (.type "AssertionError") s₂→wpAny P.M A' (eval (.Name "AssertionError" px) env) Q' E' s₂:=fun hq'=>by
  refine Calls.Name_function_global (env:=env) st₂.loc.kind hk ?_ (by decide)
  rcases q3 with hc | ⟨hc,hb'⟩
  ·exact Calls.loadGlobal_global (by rw [hgl]; exact kY st₂.inv q1) hc hq'
  ·exact Calls.loadGlobal_builtin (by rw [hgl]; exact kY st₂.inv q1) hc (by rw [hbn]; exact kY st₂.inv q2) hb' hq'
 have hty:s₂.TypeIs (.ref ea) "AssertionError" := by
  obtain ⟨ob,vs,e1,e2,e3,_⟩:=x₂'.there
  exact ⟨ob,e1,e2⟩
 refine wpAny_handleBy_builtin zKw zFy zFx (nm ⟨rfl,hty,?_⟩)
 rw [if_pos rfl]
 refine qLe st₂ F.hL x₂' fun s₃ st₃ ⟨ob,hob,good⟩=>?_
 exact wpAny_execs_cons (wpAny_Pass (wpAny_execs_nil ⟨_,_,W₁,rfl,st₃,.next⟩))
end
theorem qWd:builtinKind "dict.__getitem__" = some .method:=by decide +kernel
theorem qOw:splitId "dict.__getitem__" = some ("dict", "__getitem__"):=by decide +kernel
theorem qLl {M:Model} {A:Around} {E:Value→Shared→Prop} {s:Shared} {i owner n:String} {self:Value} {rest:List Value} {kw:List (Str×Value)} {Q:Unit→Shared→Prop}
  (hk:builtinKind i=some .method) (hs:splitId i=some (owner,n)) (hi:Looks M s.heap (isInstance self (.type owner)) true) (ha:argsOk i ⟨self::rest,kw⟩) (q:Q () s) :
  wpAny M A (checkBuiltinCall i ⟨self::rest,kw⟩) Q E s:=by
 simp only [checkBuiltinCall,hk,hs]
 refine wpAny_bind (hi.here ?_)
 simp only [Bool.not_true,Bool.false_eq_true,if_false]
 cases hsig:Manifest.signature? i with
 | none=>exact wpAny_pure q
 | some sig =>
  simp only [argsOk,hsig] at ha
  have h2:Bind.checkArgs i sig ⟨self::rest,kw⟩=pure ():=ha
  exact wpAny_of_eq h2 q
section
variable {prog:Program} {w:World} {A:Around} {E:Value→Shared→Prop} {s:Shared} {K:Frag} {C d:Addr} {f:Nat→Nat}
theorem qTm (T:TabOk K C d f) (X:K.In s.heap) {c:Nat} (hc:c < 128) {t:Tok} {Q:Option Value→Shared→Prop} (hQ:∀ u,Q (some (.int (f c:Nat) u)) { s with toks:=s.toks+1 }):wpAny (model prog w) A (dictGet d (.int c t)) Q E s:=by
 obtain ⟨o,es,ep,ho,_,hd,hk,hv⟩:=T.obj
 obtain ⟨u,hf⟩:=hv c hc
 have ho':=X _ _ ho
 unfold dictGet
 try with_reducible refine wpAny_holding ?_
 refine wpAny_bind (wpAny_pyHash_int (wpAny_bind (wpAny_dictFind_int (s:={ s with toks:=s.toks+1 }) ho' hd hk ?_)))
 rw [findBy_of_findIdx?] at hf
 cases hi:es.findIdx? fun e=>Value.isInt c e.key with
 | none=>rw [hi] at hf; cases hf
 | some i =>
  rw [hi] at hf
  refine wpAny_bind (wpAny_dictEntries (s:={ s with toks:=s.toks+1 }) ho' hd (wpAny_pure ?_))
  have hf':es[i]?.map (·.val)=some (.int (f c:Nat) u):=hf
  rw [hf']
  exact hQ u
theorem qGo (T:TabOk K C d f) (X:K.In s.heap) {c:Nat} (hc:c < 128) {t:Tok} {Q:Value→Shared→Prop} (hQ:∀ u,Q (.int (f c:Nat) u) { s with toks:=s.toks+1 }):wpAny (model prog w) A (getItem (.ref d) (.int c t)) Q E s:=by
 obtain ⟨o,es,ep,ho,hcl,_⟩:=T.obj
 have LT:Looks (model prog w) s.heap (typeOf (.ref d)) (.ref C):=looks_typeIn X (by show (K.lookup d).map (·.cls)=_; rw [ho]; exact congrArg some hcl)
 have LI:Looks (model prog w) s.heap (isInstance (.ref d) (.type "dict")) true:=looks_instIn X (by
  show ((K.lookup d).map (·.cls)).bind _=_
  rw [ho]
  show subIn K o.cls _=_
  rw [hcl]
  exact T.sub)
 have seqs:(seqItemTypes.all fun n=>subIn K (.ref C) (.type n) == some false)=true:=by
  rw [show seqItemTypes=["collections.deque"] from rfl,List.all_cons,T.seq,List.all_nil]; decide
 unfold getItem
 try with_reducible refine wpAny_holding ?_
 refine wpAny_bind ?_
 unfold sequenceKey
 refine wpAny_bind (LT.here ?_)
 dsimp only
 refine wpAny_bind ((anyM_none (l:=seqItemTypes) X seqs).here ?_)
 refine wpAny_pure ?_
 refine wpAny_bind ?_
 unfold callSpecial? specialOf
 refine wpAny_bind (wpAny_bind (LT.here ((looks_findIn X T.get).here ?_)))
 dsimp only
 refine wpAny_holding (wpAny_bind ?_)
 rw [PySem.slot_dict_getitem.bind]
 refine wpAny_pure (wpAny_bind ?_)
 refine wpAny_call (codeAny_call_builtin PySem.slot_dict_getitem.plain PySem.entry_dict_getitem ?_)
 show wpAny _ _ (checkBuiltinCall "dict.__getitem__" ⟨[.ref d,.int c t],[]⟩) _ _ _
 refine qLl (i:="dict.__getitem__") (self:=.ref d) (rest:=[.int c t]) (kw:=[]) (owner:="dict") (n:="__getitem__") qWd qOw LI (PySem.args_dict_getitem (.ref d) (.int c t)) ?_
 show wpAny _ _ (dictGet d (.int c t) >>= _) _ _ s
 refine wpAny_bind (qTm T X hc fun u=>?_)
 exact wpAny_pure (wpAny_pure (wpAny_pure (hQ u)))
end
noncomputable def TrI (f:Nat→Nat) (s:Shared) (all:List Nat) (rest:List Nat) (b:List Str×Nat×Bool×List (Nat×Option Nat)×Bool) (s':Shared):Prop :=
 ∃ dn,all=dn++rest∧b.1=(dn.map fun c=>({ cps:=#[f c] }:Str)).reverse∧b.2.1=dn.length∧b.2.2.1=true∧(∀ c a,b.2.2.2.1.lookup c=some a→a=some (f c))∧∃ k,s.toks≤k∧s'={ s with toks:=k }
theorem uW (f:Nat→Nat):∀ (l:List Nat) (a:Array Nat),(l.map fun c=>({ cps:=#[f c] }:Str)).foldl (fun acc p=>acc++p.cps) a=a++(l.map f).toArray
 | [],a=>by simp
 | c::l,a=>by
  rw [List.map_cons,List.foldl_cons,uW f l,List.map_cons]
  apply Array.toList_inj.mp
  simp
theorem qZo (f:Nat→Nat) (l:List Nat):(l.map fun c=>({ cps:=#[f c] }:Str)).foldl (fun acc p=>acc++p.cps) #[]=(l.map f).toArray:=by
 rw [uW]; simp
section
variable {prog:Program} {w:World} {A:Around} {E:Value→Shared→Prop} {s:Shared} {K:Frag} {C d:Addr} {f:Nat→Nat}
theorem qJl (T:TabOk K C d f) (X:K.In s.heap) {c:Nat} (hc:c < 128) {Q:Builtin.Str.Mapped→Shared→Prop} (hQ:Q (.char (f c)) { s with toks:=s.toks+2 }):wpAny (model prog w) A (Builtin.Str.tableLookup (.ref d) c) Q E s:=by
 unfold Builtin.Str.tableLookup
 refine wpAny_bind (wpAny_attempt (wpAny_bind (wpAny_mkInt (qGo T (s:={ s with toks:=s.toks+1 }) X hc fun u=>?_))))
 dsimp only
 refine wpAny_bind (wpAny_of_eq (a:=some ((f c:Nat):Int)) rfl ?_)
 dsimp only
 have hlt:=T.low c hc
 rw [if_neg (by simp; lia)]
 exact wpAny_pure hQ
theorem qBb (T:TabOk K C d f) (X:K.In s.heap) {x:Str} {t:Tok} (hx:∀ c∈x.cps.toList,c < 128) (hl:x.length≤sizeLine) {Q:Fin→Shared→Prop} (h0:x.length=0→Q (.done (.ret (.str x t))) s)
  (h1:0 < x.length→∀ k,s.toks≤k→Q (.done (.ret (.str (kJ f x) k))) { s with toks:=k+1 }) :
  wpAny (model prog w) A (Builtin.«str.translate» ⟨[.str x t,.ref d],[]⟩) Q E s:=by
 unfold Builtin.«str.translate»
 refine wpAny_bind (wpAny_of_eq (a:=(.str x t,x,.ref d)) rfl ?_)
 by_cases hz:x.length=0
 ·exact wpAny_ite_true (decide_eq_true (beq_iff_eq.mpr hz)) (wpAny_bind (wpAny_rule (wpAny_pure (h0 hz))))
 ·refine wpAny_ite_false (decide_eq_false fun q=>hz (beq_iff_eq.mp q)) ?_
  have hall:x.cps.all (fun c=>decide (c < 128))=true:=by
   rw [Array.all_eq_true']
   intro c hc
   exact decide_eq_true (hx c (Array.mem_toList_iff.mpr hc))
  refine wpAny_bind (wpAny_mono (Q:=fun b s'=>TrI f s x.cps.toList [] b s') ?_ ?_ fun _ _ z=>z)
  ·refine PySem.MeetsSeq2.wpAny_forIn_array _ (TrI f s x.cps.toList) _ ?_ (fun b s' h=>h) x.cps _ ⟨[],rfl,rfl,rfl,hall,(fun _ _ e=>nomatch e),s.toks,Nat.le_refl _,rfl⟩
   rintro c rest ⟨ps,n,fast,known,drop⟩ s' ⟨dn,e1,rfl,rfl,rfl,h5,k,hk,rfl⟩
   have hmem:c∈x.cps.toList:=by rw [e1]; simp
   have hc:=hx c hmem
   have hle:dn.length≤sizeLine:=by
    have e2:x.cps.toList.length=dn.length+(rest.length+1):=by rw [e1]; simp
    have e3:x.cps.toList.length=x.length:=Array.length_toList
    lia
   have hnl:¬ Builtin.Str.tooLong dn.length=true:=by unfold Builtin.Str.tooLong; simpa using hle
   have hend:∀ (kn:List (Nat×Option Nat)) k',s.toks≤k'→(∀ c a,kn.lookup c=some a→a=some (f c)) →
     TrI f s x.cps.toList rest (({ cps:=#[f c] }:Str)::(dn.map fun c=>({ cps:=#[f c] }:Str)).reverse,dn.length+1,true,kn,drop) { s with toks:=k' }:=fun kn k' hk' hkn =>
    ⟨dn++[c],by rw [e1]; simp,by simp,by simp,rfl,hkn,k',hk',rfl⟩
   refine wpAny_ite_false (decide_eq_false hnl) (wpAny_ite_true (decide_eq_true rfl) ?_)
   show wpAny _ _ (match known.lookup c with | some a=>_ | none=>_) _ _ _
   cases ha:known.lookup c with
   | some a =>
    obtain rfl:=h5 _ _ ha
    exact wpAny_bind (wpAny_pure (wpAny_pure (hend known k hk h5)))
   | none =>
    refine wpAny_bind (qJl T (s:={ s with toks:=k }) X hc ?_)
    dsimp (config:={ zeta:=false }) only
    rw [if_pos (T.low c hc)]
    refine wpAny_bind (wpAny_pure (wpAny_pure (hend _ (k+2) (by lia) ?_)))
    intro c' a ha
    rw [List.lookup_cons] at ha
    split at ha
    ·rename_i he
     cases ha
     rw [beq_iff_eq.mp he]
    ·exact h5 _ _ ha
  ·rintro ⟨ps,n,fast,known,drop⟩ s' ⟨dn,e1,rfl,rfl,rfl,h5,k,hk,rfl⟩
   have e2:dn=x.cps.toList:=by rw [e1,List.append_nil]
   subst e2
   have e3:x.cps.toList.length=x.length:=Array.length_toList
   have hnl:¬ Builtin.Str.tooLong x.cps.toList.length=true:=by unfold Builtin.Str.tooLong; simp only [decide_eq_true_eq]; lia
   refine wpAny_ite_false (decide_eq_false hnl) ?_
   rw [List.reverse_reverse,qZo]
   exact wpAny_bind (wpAny_mkStr (s:={ s with toks:=k }) (wpAny_pure (h1 (by lia) k hk)) (by show (x.cps.toList.map f).toArray.size≤sizeLine; rw [List.size_toArray,List.length_map]; lia))
end
end Mine.Lake
end
noncomputable section
namespace Mine.Lake
open PySem PySem.W PyProof.Rows PySem.Builtin PySem.Builtin.Str
section
variable {prog:Program} {w:World} {A:Around} {E:Value→Shared→Prop} {s:Shared}
theorem qFj {M:Model} {x:Str} {t:Tok} {pl:Sem Bool} {Q:Value×List Value→Shared→Prop} (h:Q (.builtin "str.translate", [.str x t]) s):wpAny M A (getMethod (.str x t) "translate" pl) Q E s:=by
 with_reducible exact GM.of (.str x t) (typeIs_str _ _ _) F.slot_str_translate F.type_str_translate GM.noRef h
theorem qLn {K:Frag} {C d:Addr} {f:Nat→Nat} (T:TabOk K C d f) (X:K.In s.heap) {x:Str} {t:Tok} (hx:∀ c∈x.cps.toList,c < 128) (hl:x.length≤sizeLine) {Q:Value→Shared→Prop} (h0:x.length=0→Q (.str x t) s)
  (h1:0 < x.length→∀ k,s.toks≤k→Q (.str (kJ f x) k) { s with toks:=k+1 }):wpAny (model prog w) A (call (.builtin "str.translate") [.str x t,.ref d] []) Q E s :=
 wpAny_call_entry F.slot_str_translate (typeIs_str _ _ _) F.entry_str_translate
  (qBb T X hx hl (fun e=>⟨_,rfl,h0 e⟩) fun e k hk=>⟨_,rfl,h1 e k hk⟩) (F.args_str_translate_2 _ _)
theorem qYj {x y z:Str} {t u v:Tok} {Q:Value→Shared→Prop} (hu:x.length≠0→u≠0∧v≠0∧u≠v) (h0:(occurrences ⟨#[]⟩ y 0 0 1).isEmpty=true) (hyz:(y == z)=false) (hb:x.length+(x.length+1) * z.length≤16777216)
  (hQ:∀ t' k,s.toks≤k→Q (.str (Txt.replace x y z) t') { s with toks:=k }):wpAny (model prog w) A (call (.builtin "str.replace") [.str x t,.str y u,.str z v] []) Q E s:=by
 have hl:tooLong (x.length+(occurrences x y 0 x.length (x.length+1)).length * z.length)=false:=by
  have h1:=StrLaws.occ_length_le x y 0 x.length (x.length+1)
  have h2:(occurrences x y 0 x.length (x.length+1)).length * z.length≤(x.length+1) * z.length:=Nat.mul_le_mul_right _ h1
  have e:(2:Nat) ^ 24=16777216:=by decide
  unfold tooLong sizeLine
  exact decide_eq_false (by lia)
 have hne:((occurrences x y 0 x.length (x.length+1)).isEmpty || (y.length == 0 && z.length == 0))=false→x.length≠0:=by
  intro hc he
  have:x=⟨#[]⟩:=by
   obtain ⟨c⟩:=x
   have:c = #[]:=Array.eq_empty_of_size_eq_zero he
   rw [this]
  subst this
  rw [show ((⟨#[]⟩:Str).length)=0 from rfl,h0] at hc
  cases hc
 refine call_gives F.slot_str_replace (typeIs_str _ _ _) F.entry_str_replace (F.args_str_replace_3 _ _ _)
  (gives_str_replace x y z t u v fun hc=>by
   obtain ⟨a,b,c⟩:=hu (hne hc)
   exact ⟨by simp [a,b],by simp [c],hyz,hl⟩) ?_
 have hq':=hQ
 unfold Txt.replace at hq'
 cases hc:((occurrences x y 0 x.length (x.length+1)).isEmpty || (y.length == 0 && z.length == 0))
 ·rw [hc] at hq'
  simp only [Bool.false_eq_true,if_false] at hq' ⊢
  exact ⟨fits_replaced y hb,hq' _ _ (Nat.le_succ _)⟩
 ·rw [hc] at hq'
  simp only [if_true] at hq' ⊢
  exact hq' t s.toks (Nat.le_refl _)
end
noncomputable def zGi (v:Str) (s:Shared):Prop:=v.length=0∨0 < s.toks
section
variable {P:Par} {fr:List Nat} {A:Around} {env:Env} {W W':Wd} {σ σ':St} {s s':Shared} {cx:Sx}
theorem qDn {E:Value→Shared→Prop} (F:FmS P cx.lvl fr A env) (I:Inv P fr W σ.toHp s) (L:Loc P env W σ s.heap) {x:Str} {v:V} {c:Value} (hx:env.kindOf x=some .local) (hv:VR W σ.nxt v c) {Q:Unit→Shared→Prop}
  (hq:∀ s',Step P fr env W σ s W (σ.set x v) s'→s.toks≤s'.toks→Q () s'):wpAny P.M A (storeName env x c) Q E s:=by
 obtain ⟨m,hn,_⟩:=L.loc
 exact wpAny_storeName_local hx hn (fun h' hn' hs'=>hq _ (Step.set I L F.hL hv hx hn hn' hs' rfl rfl) (Nat.le_succ _)) (by rw [L.kind]; rfl)
theorem qUr (F:FmS P cx.lvl fr A env) (I:Inv P fr W σ.toHp s) (L:Loc P env W σ s.heap) {x v a b:Str} {q q2 ap p1 p2 r p:Pos} {k1 k2:Nat} (hx:env.kindOf x=some .local) (hg:zL x=true)
  (hv:σ.loc.lookup x=some (.str v)) (hp:zGi v s) (ha:qVx a b=true) (hal:a.length≤sizeLine) (hbl:b.length≤sizeLine) (hr:qBq v a b=true) (h5:ap.endLine=r.line) {Q:Flow→Shared→Prop} {E:Value→Shared→Prop}
  (hQ:∀ s',Step P fr env W σ s W (σ.set x (.str (Txt.replace v a b))) s'→zGi (Txt.replace v a b) s'→Q .next s') :
  wpAny P.M A (exec (.Assign [.Name x q] (.Call (.Attribute (.Name x q2) "replace" ap) [.Constant (.str a) k1 p1,.Constant (.str b) k2 p2] [] r) p) env) Q E s:=by
 obtain ⟨hd,hcd⟩:=vY hg
 unfold qVx at ha
 unfold qBq at hr
 simp only [Bool.and_eq_true,Bool.not_eq_true',decide_eq_true_eq] at ha hr
 obtain ⟨m,hn,hl⟩:=L.loc
 obtain ⟨_,c,hm,hrel⟩:=hl x (.str v) hv
 obtain ⟨t,rfl,hvl,_⟩:=hrel.inv_str
 refine wpAny_Assign_Name ?_ (kA rfl ..)
 have hst:starEach [Expr.Constant (.str a) k1 p1,.Constant (.str b) k2 p2] env=[(false,eval (.Constant (.str a) k1 p1) env),(false,eval (.Constant (.str b) k2 p2) env)]:=rfl
 have hform:methodCallForm ([Expr.Constant (.str a) k1 p1,.Constant (.str b) k2 p2].length+([]:List Keyword).length) (backTo r (starEach [Expr.Constant (.str a) k1 p1,.Constant (.str b) k2 p2] env)) (backToKw r (keywordEach [] env))=true:=rfl
 have hpos:methodCallPos true (.Name x q2) env ap r=pure r:=by unfold methodCallPos; simp [h5]
 show wpAny P.M A (do
  let ov ← attributeBase (.Name x q2) "replace" env (eval (.Name x q2) env)
  standAt ap.atName
  methodCall (.Name x q2) "replace" ap r env ov ([Expr.Constant (.str a) k1 p1,.Constant (.str b) k2 p2].length+([]:List Keyword).length) (backTo r (starEach [Expr.Constant (.str a) k1 p1,.Constant (.str b) k2 p2] env)) (backToKw r (keywordEach [] env))) _ _ s
 rw [show attributeBase (.Name x q2) "replace" env (eval (.Name x q2) env)=eval (.Name x q2) env from rfl]
 refine wpAny_bind (wpAny_Name (wpAny_loadName_local L.kind hx hn hm (wpAny_bind (wpAny_standAt ?_))) hd)
 unfold methodCall
 rw [hform]
 refine wpAny_bind (wpAny_holding (GM.replace ?_))
 refine wpAny_bind (wpAny_of_eq hpos ?_)
 refine xF rfl ?_
 refine wpAny_items_cons (Calls.Constant_str ?_) rfl
 refine wpAny_items_cons (Calls.Constant_str ?_) rfl
 refine wpAny_items_nil ⟨fun E Q hq=>wpAny_pure (hq _),?_⟩
 refine qYj (fun hz=>?_) ha.1 (by simpa using ha.2) hr.1.1 fun t' k hk=>?_
 ·rcases hp with hp | hp
  ·exact absurd hp hz
  ·exact ⟨by show s.toks≠0; lia,by show s.toks+1≠0; lia,by show s.toks≠s.toks+1; lia⟩
 ·have st:=Step.toks I L k
  refine qDn F st.inv st.loc hx (.str _ _ hr.1.2 hr.2) fun s' st' hk'=>?_
  refine hQ s' (st.trans st') ?_
  rcases hp with hp | hp
  ·refine .inl ?_
   have:v=⟨#[]⟩:=by
    obtain ⟨c⟩:=v
    have:c = #[]:=Array.eq_empty_of_size_eq_zero hp
    rw [this]
   subst this
   unfold Txt.replace
   rw [show ((⟨#[]⟩:Str).length)=0 from rfl,ha.1]
   rfl
  ·exact .inr (by have h1:s.toks+1+1≤k:=hk; have h2:k≤s'.toks:=hk'; lia)
end
section
variable {P:Par} {fr:List Nat} {A:Around} {env:Env} {W W':Wd} {σ σ':St} {s s':Shared} {cx:Sx}
theorem qDp {x:Str} {u v:V} (st:Step P fr env W σ s W' ((σ.set x u).set x v) s'):Step P fr env W σ s W' (σ.set x v) s':=by
 refine ⟨st.nx,st.inv,⟨st.loc.kind,st.loc.glob,st.loc.bns,?_,st.loc.cel,st.loc.cod⟩⟩
 obtain ⟨m,h1,h2⟩:=st.loc.loc
 refine ⟨m,h1,fun z w hz=>h2 z w ?_⟩
 have hz':(wU x v σ.loc).lookup z=some w:=hz
 show (wU x v (wU x u σ.loc)).lookup z=some w
 rw [zA] at hz' ⊢
 by_cases h1:z=x
 ·rw [if_pos h1] at hz' ⊢; exact hz'
 ·rw [if_neg h1] at hz' ⊢
  rw [zA,if_neg h1]
  exact hz'
theorem zBf (F:FmS P cx.lvl fr A env) {x:Str} {Q:Flow→Shared→Prop} {E:Value→Shared→Prop} (hx:env.kindOf x=some .local) (hg:zL x=true) {ps:List (Str×Str)} {l l':List Stmt} (h:Reps x ps l l') :
  ∀ {W:Wd} {σ:St} {s:Shared} {v v':Str},Inv P fr W σ.toHp s→Loc P env W σ s.heap→σ.loc.lookup x=some (.str v)→zGi v s→qBp ps v=some v' →
   (∀ s',Step P fr env W σ s W (σ.set x (.str v')) s'→wpAny P.M A (execs l' env) Q E s')→wpAny P.M A (execs l env) Q E s:=by
 induction h with
 | nil =>
  intro W σ s v v' I L hv hp e hQ
  cases e
  refine hQ s ?_
  refine ⟨(Step.refl I L).nx,I,⟨L.kind,L.glob,L.bns,?_,L.cel,L.cod⟩⟩
  obtain ⟨m,h1,h2⟩:=L.loc
  refine ⟨m,h1,fun z w hz=>h2 z w ?_⟩
  have hz':(wU x (.str v) σ.loc).lookup z=some w:=hz
  rw [zA] at hz'
  by_cases hzx:z=x
  ·rw [if_pos hzx] at hz'; cases hz'; rw [hzx]; exact hv
  ·rw [if_neg hzx] at hz'; exact hz'
 | @cons a b ps q q2 ap p1 p2 r p k1 k2 l l' hc hr ih =>
  intro W σ s v v' I L hv hp e hQ
  simp only [Bool.and_eq_true,decide_eq_true_eq,beq_iff_eq] at hc
  have e':(if qBq v a b=true then qBp ps (Txt.replace v a b) else none)=some v':=e
  split at e'
  ·rename_i hk
   refine wpAny_execs_cons (qUr F I L hx hg hv hp hc.1.1.1 hc.1.1.2 hc.1.2 hk hc.2 fun s' st hp'=>?_)
   refine ih st.inv st.loc ?_ hp' e' fun s'' st'=>hQ s'' (qDp (st.trans st'))
   show (wU x _ σ.loc).lookup x=_
   rw [zA,if_pos rfl]
  ·cases e'
theorem xJ {α β:Type} {o:Option α} {f:α→Rs β} (h:o.elim .bad f≠.bad):∃ a,o=some a∧o.elim .bad f=f a:=by
 cases o with
 | none=>exact absurd rfl h
 | some a=>exact ⟨a,rfl,rfl⟩
theorem zAn {sc:Scope} {x tn:Str} {ps:List (Str×Str)} {b:S} {q q2 ap p1 r p:Pos} {l l':List Stmt} (h1:(zL x && sc.names.lookup x == some .local)=true) (h2:Ok (.glob tn) sc (.e (.Name tn p1))) (h5:ap.endLine=r.line)
  (hr:Reps x ps l l') (ib:xG P b sc (.l l')) :
  xG P (.sq x tn ps b) sc (.l (.Assign [.Name x q] (.Call (.Attribute (.Name x q2) "translate" ap) [.Name tn p1] [] r) p::l)):=by
 intro cx C fr A env F S
 have Jb:=ib cx C fr A env F S
 have Jg:=(sound C.base h2 fr A env F.toFm S).1
 simp only [Bool.and_eq_true,beq_iff_eq] at h1
 have hx:=S.loc x h1.2
 obtain ⟨hd,hcd⟩:=vY h1.1
 intro W σ s I L hne
 have hev:ex (.sq x tn ps b) cx σ=(match σ.loc.lookup x with
  | some (.str v)=>(cx.gl tn).elim .bad fun vt=>(cx.tr vt).elim .bad fun f=>(qJw f ps v).elim .bad fun v'=>ex b cx (σ.set x (.str v'))
  | _=>.bad):=rfl
 rw [hev] at hne ⊢
 split at hne
 ·rename_i v hv
  obtain ⟨vt,e1,r1⟩:=xJ hne
  rw [r1] at hne ⊢
  obtain ⟨f,e2,r2⟩:=xJ hne
  rw [r2] at hne ⊢
  obtain ⟨v',e3,r3⟩:=xJ hne
  rw [r3] at hne ⊢
  obtain ⟨d,K,Cc,rfl,T,X⟩:=C.tr _ _ e2
  have e3':(if trOk f v=true then qBp ps (kJ f v) else none)=some v':=e3
  split at e3'
  ·rename_i hk
   unfold trOk at hk
   simp only [Bool.and_eq_true,List.all_eq_true,decide_eq_true_eq] at hk
   obtain ⟨m,hn,hl⟩:=L.loc
   obtain ⟨_,c,hm,hrel⟩:=hl x (.str v) hv
   obtain ⟨t,rfl,hvl,hvs⟩:=hrel.inv_str
   have hlen:(kJ f v).length=v.length:=by
    show (v.cps.toList.map f).toArray.size=v.cps.size
    rw [List.size_toArray,List.length_map,Array.length_toList]
   have hgl:ev cx.toCx (.glob tn) σ=.ok (.top (.ref d)) σ:=by
    show (match cx.gl tn with | some v=>Rs.ok v σ | Option.none=>.bad)=_
    rw [e1]
   refine wpAny_execs_cons (wpAny_Assign_Name ?_ (kA rfl ..))
   have hform:methodCallForm ([Expr.Name tn p1].length+([]:List Keyword).length) (backTo r (starEach [Expr.Name tn p1] env)) (backToKw r (keywordEach [] env))=true:=rfl
   have hpos:methodCallPos true (.Name x q2) env ap r=pure r:=by unfold methodCallPos; simp [h5]
   show wpAny P.M A (do
    let ov ← attributeBase (.Name x q2) "translate" env (eval (.Name x q2) env)
    standAt ap.atName
    methodCall (.Name x q2) "translate" ap r env ov ([Expr.Name tn p1].length+([]:List Keyword).length) (backTo r (starEach [Expr.Name tn p1] env)) (backToKw r (keywordEach [] env))) _ _ s
   rw [show attributeBase (.Name x q2) "translate" env (eval (.Name x q2) env)=eval (.Name x q2) env from rfl]
   refine wpAny_bind (wpAny_Name (wpAny_loadName_local L.kind hx hn hm (wpAny_bind (wpAny_standAt ?_))) hd)
   unfold methodCall
   rw [hform]
   refine wpAny_bind (wpAny_holding (qFj ?_))
   refine wpAny_bind (wpAny_of_eq hpos ?_)
   refine xF rfl ?_
   refine wpAny_items_cons (wpAny_mono (Jg W σ s I L (by rw [hgl]; nofun)) (fun c s₁ ⟨u,σ₁,W₁,e,st₁,hu⟩=>?_) (fun e s' h=>h.elim)) rfl
   rw [hgl] at e
   cases e
   obtain rfl:=hu.inv_top
   refine wpAny_items_nil ⟨fun E Q hq=>wpAny_pure (hq _),?_⟩
   have go:∀ t' k,zGi (kJ f v) { s₁ with toks:=k }→wpAny P.M A (storeName env x (.str (kJ f v) t')) (fun _ s₂=>wpAny P.M A (execs l env) (PostF P fr env W σ s (ex b cx (σ.set x (.str v')))) NoE s₂) NoE { s₁ with toks:=k }:=by
    intro t' k hp
    have st:=st₁.trans (Step.toks st₁.inv st₁.loc k)
    refine qDn F st.inv st.loc hx (.str _ _ (by rw [hlen]; exact hvl) hk.2) fun s' st' hk'=>?_
    have st2:=st.trans st'
    refine zBf F hx h1.1 hr st2.inv st2.loc ?_ ?_ e3' fun s'' st''=>?_
    ·show (wU x _ σ.loc).lookup x=_
     rw [zA,if_pos rfl]
    ·rcases hp with hp | hp
     ·exact .inl hp
     ·exact .inr (Nat.lt_of_lt_of_le hp hk')
    ·have st3:=qDp (st2.trans st'')
     exact wpAny_mono (Jb _ _ _ st3.inv st3.loc hne) (fun c s' h=>h.after st3) fun e s' h=>h.elim
   refine qLn T (X.keeps st₁.inv.keep) hk.1 hvl (fun hz=>?_) fun hz k hk'=>?_
   ·have e0:kJ f v=v:=by
     obtain ⟨c⟩:=v
     have:c = #[]:=Array.eq_empty_of_size_eq_zero hz
     subst this
     rfl
    have g:=go t s₁.toks (.inl (by rw [hlen]; exact hz))
    rw [e0] at g
    exact g
   ·exact go k (k+1) (.inr (Nat.succ_pos _))
  ·cases e3'
 ·exact absurd rfl hne
end
end Mine.Lake
end
noncomputable section
namespace Mine.Lake
open PySem PySem.W PyProof.Rows
section
variable {P:Par} {fr:List Nat} {A:Around} {env:Env} {W W':Wd} {σ σ':St} {s s':Shared} {cx:Sx}
theorem qTq {st:S} {sc:Scope} {pt:Pt} (h:TieS st sc pt):xG P st sc pt:=by
 induction h with
 | brk=>exact qUf
 | expr a b=>exact qPg a b
 | asg a b c=>exact qUg a b c
 | own a b=>exact qUc a b
 | asgC a b c=>exact qPl a b c
 | setA a b c=>exact qPa a b c
 | ret a=>exact qUb a
 | ite a _ _ b c=>exact qUe a b c
 | loop a _ _ b c=>exact qPf a b c
 | each a b _ c d=>exact qPh a b d c
 | assert a=>exact qGy a
 | nil=>exact qUd
 | seq _ _ a b=>exact qUa a b
 | asg2 a b c=>exact qPm a b c
 | tryA a b c d e=>exact qOz a b c d e
 | asg2s a b c d e=>exact qJt a b c d e
 | cont=>exact qPj
 | ret0=>exact qPb
 | asgs a b c _=>exact qPk a b c
 | ownA a b c=>exact qPd a b c
 | ownL a b c d e f=>exact qPc b c d e f a
 | newL a b c d e=>exact qPe a b c d e
 | setA2 a b c=>exact qJs a b c
 | delL a=>exact qPi a
 | sq a b c d _ e=>exact zAn a b c d e
end
noncomputable def Hp.add (H:Hp) (o:O):Hp:={ obj:=fun k=>if k=H.nxt then some o else H.obj k,nxt:=H.nxt+1 }
noncomputable def qK (bv:List (Str×V)):List (Str×NameKind)→Hp→List (Str×Nat)→Hp×List (Str×Nat)
 | [],H,c=>(H,c)
 | (x,k)::r,H,c=>if k == .cell then qK bv r (H.add (.cell (bv.lookup x))) ((x,H.nxt)::c) else qK bv r H c
noncomputable def wS (sc:Scope) (ps:List Str):Bool:=sc.kind == .function && !sc.isCoroutine && !sc.isGenerator && keyed sc.names && sc.names.all (fun p=>p.2 != .free) && distinct ps && ps.all (fun x=>sc.names.lookup x == some .local || sc.names.lookup x == some .cell)
noncomputable def qQc (f:Fl) (σ:St):Rs V:=match f with
 | .ret v=>.ok v σ
 | .next=>.ok .none σ
 | _=>.bad
noncomputable def entryC (sc:Scope) (bv:List (Str×V)) (H:Hp):St:={ toHp:=(qK bv sc.names H []).1,loc:=bv.filter (fun p=>sc.names.lookup p.1 == some .local),cel:=(qK bv sc.names H []).2 }
noncomputable def entry (bv:List (Str×V)) (H:Hp):St:={ toHp:=H,loc:=bv }
noncomputable def yR (sc:Scope) (ps:List Str):Bool:=sc.names.all (fun p=>!(p.2 == .cell)) && ps.all fun x=>sc.names.lookup x == some .local
theorem yZ {sc:Scope} {ps:List Str} {args:List V} {H:Hp} (h:yR sc ps=true):entryC sc (ps.zip args) H=entry (ps.zip args) H:=by
 unfold yR at h
 rw [Bool.and_eq_true] at h
 have h1:∀ (l:List (Str×NameKind)),l.all (fun p=>!(p.2 == .cell))=true→∀ c,qK (ps.zip args) l H c=(H,c):=by
  intro l
  induction l with
  | nil=>intro _ c; rfl
  | cons p l ih =>
   intro h c
   rw [List.all_cons,Bool.and_eq_true] at h
   obtain ⟨x,k⟩:=p
   have hk:(k == NameKind.cell)=false:=by
    cases q:(k == NameKind.cell) with
    | false=>rfl
    | true=>rw [show ((x,k):Str×NameKind).2=k from rfl,q] at h; exact absurd h.1 (by decide)
   unfold qK
   rw [if_neg (by rw [hk]; decide)]
   exact ih h.2 c
 have h2:(ps.zip args).filter (fun p=>sc.names.lookup p.1 == some .local)=ps.zip args:=List.filter_eq_self.mpr fun p hp=>List.all_eq_true.mp h.2 _ (List.of_mem_zip (a:=p.1) (b:=p.2) hp).1
 unfold entryC entry
 rw [h1 _ h.1,h2]
noncomputable def jU (sc:Scope) (ps:List Str) (b:S) (cx:Sx) (args:List V) (H:Hp):Rs V :=
 if args.length=ps.length then (ex b cx (entryC sc (ps.zip args) H)).bind qQc else .bad
noncomputable def Ro (W:Wd) (n:Nat):Option V→Option Value→Prop
 | some v,some c=>VR W n v c
 | none,none=>True
 | _,_=>False
theorem wI {W:Wd} {n:Nat} (x:Str):∀ (ps:List Str) {args:List V} {cs:List Value},VRs W n args cs→Ro W n ((ps.zip args).lookup x) ((ps.zip cs).lookup x)
 | [],_,_,_=>by simp [Ro]
 | p::ps,_,_,.nil=>by simp [Ro]
 | p::ps,_,_,.cons h r=>by
  simp only [List.zip_cons_cons,List.lookup]
  cases x == p with
  | true=>exact h
  | false=>exact wI x ps r
theorem xK {α:Type} {x:Str}:∀ {ps:List Str} {cs:List α},ps.all (fun y=>y != x)=true→(ps.zip cs).lookup x=none
 | [],_,_=>by simp
 | p::ps,[],_=>by simp
 | p::ps,c::cs,h=>by
  simp only [List.all_cons,Bool.and_eq_true,bne_iff_ne,ne_eq] at h
  simp only [List.zip_cons_cons,List.lookup]
  rw [show (x == p)=false from by simpa using fun q=>h.1 q.symm]
  exact xK h.2
theorem qCm {kd:Str→Option NameKind} {x:Str}:∀ {ps:List Str} {cs:List Value} {m:Str→Option Value},distinct ps=true→bindL kd (ps.zip cs) m x=if kd x=some .local then ((ps.zip cs).lookup x).or (m x) else m x
 | [],cs,m,_=>by simp [bindL]
 | p::ps,[],m,_=>by simp [bindL]
 | p::ps,c::cs,m,h=>by
  simp only [distinct,Bool.and_eq_true] at h
  simp only [List.zip_cons_cons,bindL]
  rw [qCm h.2]
  simp only [List.lookup]
  by_cases hx:x=p
  ·subst hx
   rw [xK h.1]
   by_cases hk:kd x=some .local
   ·simp [hk]
   ·simp [hk]
  ·rw [show (x == p)=false from by simpa using hx]
   by_cases hk:kd x=some .local
   ·simp only [hk,if_true]
    congr 1
    by_cases hp:kd p=some .local
    ·simp [hp,hx]
    ·simp [hp]
   ·simp only [hk,if_false]
    by_cases hp:kd p=some .local
    ·simp [hp,hx]
    ·simp [hp]
theorem qCn {kd:Str→Option NameKind} {x:Str} (hk:kd x≠some .local):∀ {ps:List Str} {cs:List Value} {m:Str→Option Value},distinct ps=true→bindC kd (ps.zip cs) m x=((ps.zip cs).lookup x).or (m x)
 | [],cs,m,_=>by simp [bindC]
 | p::ps,[],m,_=>by simp [bindC]
 | p::ps,c::cs,m,h=>by
  simp only [distinct,Bool.and_eq_true] at h
  simp only [List.zip_cons_cons,bindC]
  rw [qCn hk h.2]
  simp only [List.lookup]
  by_cases hx:x=p
  ·subst hx
   rw [xK h.1]
   simp [hk]
  ·rw [show (x == p)=false from by simpa using hx]
   by_cases hp:kd p=some .local
   ·simp [hp]
   ·simp [hp,hx]
theorem jH {x:Str} {k:NameKind}:∀ {names:List (Str×NameKind)},keyed names=true→(x,k)∈names→names.lookup x=some k
 | (y,k')::r,h,hm=>by
  simp only [keyed,Bool.and_eq_true] at h
  rcases List.mem_cons.mp hm with q | q
  ·cases q; simp [List.lookup]
  ·have hne:x≠y:=by
    have:=List.all_eq_true.mp h.1 _ q
    simpa using this
   simp only [List.lookup]
   rw [show (x == y)=false from by simpa using hne]
   exact jH h.2 q
theorem zP {x:Str} {k:NameKind}:∀ {names:List (Str×NameKind)},names.lookup x=some k→(x,k)∈names
 | [],h=>by cases h
 | (y,k')::r,h=>by
  simp only [List.lookup] at h
  cases hq:x == y with
  | true=>rw [hq] at h; cases h; rw [show x=y from by simpa using hq]; exact .head _
  | false=>rw [hq] at h; exact .tail _ (zP h)
theorem vA {x:Str}:∀ {names:List (Str×NameKind)} {n:Nat} {acc:List (Str×Addr)},((acc.lookup x).isSome=true∨(x,NameKind.cell)∈names)→((cellsFrom n names acc).lookup x).isSome=true
 | [],n,acc,h=>by
  rcases h with h | h
  ·exact h
  ·cases h
 | (y,k)::r,n,acc,h=>by
  unfold cellsFrom
  by_cases hk:(k == NameKind.cell)=true
  ·rw [if_pos hk]
   refine vA ?_
   simp only [List.lookup]
   cases hq:x == y with
   | true=>exact .inl rfl
   | false =>
    rcases h with h | h
    ·exact .inl h
    ·rcases List.mem_cons.mp h with q | q
     ·cases q; simp at hq
     ·exact .inr q
  ·rw [if_neg hk]
   refine vA ?_
   rcases h with h | h
   ·exact .inl h
   ·rcases List.mem_cons.mp h with q | q
    ·cases q; exact absurd rfl hk
    ·exact .inr q
section
variable {P:Par} {fr:List Nat} {A:Around} {env:Env} {W W':Wd} {σ σ':St} {s s':Shared}
theorem qCi {bv:List (Str×V)} {cm:Str→Option Value} {all:List (Str×Addr)} {L:Nat} (hcell:∀ x c,(x,c)∈all→s'.heap.IsCell c (cm x)) (hrel:∀ x,Ro W σ.nxt (bv.lookup x) (cm x)∨∀ c,(x,c) ∉ all) :
  ∀ (names:List (Str×NameKind)) (n:Nat) (acc:List (Str×Addr)) (cel:List (Str×Nat)) (H:Hp) (W':Wd),(∀ p∈cellsFrom n names acc,p∈all)→Step P fr env W σ s W' { σ with toHp:=H } s'→s.heap.get? L=none→L < n→s.heap.objs.size≤n →
   Out P fr W' H.nxt L→(∀ a,n≤a→Out P fr W' H.nxt a)→(∀ x k,cel.lookup x=some k→k < H.nxt∧acc.lookup x=some (W'.ρ k)) →
   ∃ W'',Step P fr env W σ s W'' { σ with toHp:=(qK bv names H cel).1 } s'∧Out P fr W'' (qK bv names H cel).1.nxt L∧∀ x k,(qK bv names H cel).2.lookup x=some k→k < (qK bv names H cel).1.nxt∧(cellsFrom n names acc).lookup x=some (W''.ρ k)
 | [],n,acc,cel,H,W',_,st,_,_,_,oL,_,hc=>⟨W',st,oL,hc⟩
 | (x,k)::r,n,acc,cel,H,W',ha,st,hL,hn,hsz,oL,oa,hc=>by
  unfold cellsFrom at ha ⊢
  unfold qK
  by_cases hk:(k == NameKind.cell)=true
  ·rw [if_pos hk] at ha ⊢
   rw [if_pos hk]
   have hsub:∀ (names:List (Str×NameKind)) (m:Nat) (ac:List (Str×Addr)),∀ p∈ac,p∈cellsFrom m names ac:=by
    intro names
    induction names with
    | nil=>exact fun _ _ _ h=>h
    | cons hd tl ih =>
     intro m ac p h
     obtain ⟨y,ky⟩:=hd
     unfold cellsFrom
     split
     ·exact ih _ _ _ (.tail _ h)
     ·exact ih _ _ _ h
   have hm:(x,n)∈all:=ha _ (hsub _ _ _ _ (.head _))
   obtain ⟨ob,e1,d1⟩:=hcell x n hm
   have hnone:s.heap.get? n=none:=Heap.get?_none_of_le hsz
   have wl:=W'.add_le H.nxt n
   have hor:OR (W'.add H.nxt n) (H.nxt+1) (.cell (bv.lookup x)) ob:=by
    rcases hrel x with q | q
    ·revert q d1
     cases bv.lookup x with
     | none=>cases cm x with
      | none=>exact fun d1 _=>.nocell d1
      | some _=>exact fun _ q=>q.elim
     | some v=>cases cm x with
      | none=>exact fun _ q=>q.elim
      | some c=>exact fun d1 q=>.cell d1 ((VR.mono st.nx.wle st.nx.le q).mono wl (Nat.le_succ _))
    ·exact absurd hm (q n)
   have st₂:=Step.addLate (o:=.cell (bv.lookup x)) st hnone e1 (oa n (Nat.le_refl _)) hor
   have ρn:(W'.add H.nxt n).ρ H.nxt=n:=by show (if H.nxt=H.nxt then _ else _)=_; rw [if_pos rfl]
   have oth:∀ a,a≠n→Out P fr W' H.nxt a→Out P fr (W'.add H.nxt n) (H.nxt+1) a:=fun a hne o=>⟨o.notB,o.notFr,o.notFz,fun j hj=>by
    rcases Nat.lt_succ_iff_lt_or_eq.mp hj with h | h
    ·rw [wl.ρ j h]; exact o.notOwn j h
    ·subst h; rw [ρn]; exact Ne.symm hne⟩
   refine qCi hcell hrel r (n+1) ((x,n)::acc) ((x,H.nxt)::cel) (H.add (.cell (bv.lookup x))) (W'.add H.nxt n) ha st₂ hL (by lia) (by lia) (oth L (Nat.ne_of_lt hn) oL) (fun a h=>oth a (by lia) (oa a (by lia))) fun y j hj=>?_
   simp only [List.lookup] at hj ⊢
   cases hq:y == x with
   | true=>rw [hq] at hj; cases hj; exact ⟨Nat.lt_succ_self _,by rw [ρn]⟩
   | false =>
    rw [hq] at hj
    obtain ⟨p,q⟩:=hc y j hj
    exact ⟨Nat.lt_succ_of_lt p,by rw [wl.ρ j p]; exact q⟩
  ·rw [if_neg hk] at ha ⊢
   rw [if_neg hk]
   exact qCi hcell hrel r n acc cel H W' ha st hL hn hsz oL oa hc
end
structure FnOk (P:Par) (f:Addr) (fd:FuncData) (ps:List Str) (body:List Stmt):Prop where
 there:∃ o,P.B.get? f=some o∧o.data=.func fd
 lim:P.B.NoLimit
 code:P.B.CodeRec fd.code fd.qualname
 body:fd.body=.stmts body
 clo:fd.closure=[]
 glob:fd.globals=mainGlobals
 bns:fd.builtins=builtinsNs
 bind:∀ s:Shared,(∀ b o,P.B.get? b=some o→s.heap.get? b=some o)→∀ cargs:List Value,cargs.length=ps.length→BindsTo s fd ⟨cargs,[]⟩ (ps.zip cargs)
 shape:wS fd.scope ps=true
section
variable {P:Par} {fr:List Nat} {A:Around} {env:Env} {W W':Wd} {σ σ':St} {s s':Shared} {cx:Sx}
theorem ExcAt.outer {L:Nat} {n:Nat} {h₀ h:Heap} {e:Nat} {cls:String} (x:ExcAt P (L::fr) W n h₀ h e cls):ExcAt P fr W n h₀ h e cls:=by
 obtain ⟨ob,vs,h1,h2,h3,h4,hc,h5⟩:=x.there
 refine ⟨x.notB,fun q=>x.notFr (.tail _ q),x.notFz,x.notOwn,x.new,ob,vs,h1,h2,h3,h4,hc,?_⟩
 rcases h5 with h5 | ⟨T,oT,ts,t1,t2,t3,t4,t5,t6,t7⟩
 ·exact .inl h5
 ·exact .inr ⟨T,oT,ts,t1,t2,fun q=>t3 (.tail _ q),t4,t5,t6,t7⟩
noncomputable def zNv (P:Par) (fr:List Nat) (env:Env) (W:Wd) (σ:St) (s:Shared) (H:Hp) (e:Value) (s':Shared):Prop:=∃ W' ea σ',e=.ref ea∧σ'.toHp=H∧Step P fr env W σ s W' σ' s'∧ExcAt P fr W' H.nxt s.heap s'.heap ea "AssertionError"
noncomputable def qZf (P:Par) (lv:Nat) (sc:Scope) (body:List Stmt) (σ₀:St) (r:Rs Fl) (rx:Option Hp):Prop:=∀ fr A env W s,FmS P lv fr A env→ScOk sc env→Inv P fr W σ₀.toHp s→Loc P env W σ₀ s.heap →
 wpAny P.M A (execs body env) (PostF P fr env W σ₀ s r) (fun e s'=>∃ H,rx=some H∧zNv P fr env W σ₀ s H e s') s
theorem qEh {lv:Nat} {f:Addr} {fd:FuncData} {ps:List Str} {body:List Stmt} (K:FnOk P f fd ps body) {r:Rs Fl} {rx:Option Hp} {args:List V} {cargs:List Value}
  (hb:qZf P lv fd.scope body (entryC fd.scope (ps.zip args) σ.toHp) r rx) (F:Fm P (lv+1) fr A env) (I:Inv P fr W σ.toHp s) (L:Loc P env W σ s.heap) (ha:VRs W σ.nxt args cargs) (hlen:args.length=ps.length) (hr:∀ fl σ',r=.ok fl σ'→qQc fl σ'≠.bad) :
  codeAny P.M A (.call (.ref f) ⟨cargs,[]⟩) (fun x s'=>match x with | .ok (.ret v)=>Post P fr env W σ s ((r.bind qQc).lift σ) v s' | .ok _=>False | .error e=>∃ H,rx=some H∧zLh P fr env W σ s H e s') s:=by
 obtain ⟨o,ho,hd⟩:=K.there
 have ho':=I.keep f o ho
 have hsh:=K.shape
 simp only [wS,Bool.and_eq_true,beq_iff_eq,Bool.not_eq_true'] at hsh
 obtain ⟨⟨⟨⟨⟨⟨k1,k2⟩,k3⟩,k4⟩,k5⟩,k6⟩,k7⟩:=hsh
 have hclen:cargs.length=ps.length:=ha.length.trans hlen
 have hroom:A.depth < recursionLimit:=by have:=F.depth; lia
 have hkind:∀ n,∀ x∈ps.zip cargs,fd.scope.names.lookup x.1=some .local∨(fd.scope.names.lookup x.1=some .cell∧((cellsFrom n fd.scope.names []).lookup x.1).isSome=true):=fun n x hx'=>by
  have hp:x.1∈ps:=(List.of_mem_zip (a:=x.1) (b:=x.2) hx').1
  have:=List.all_eq_true.mp k7 _ hp
  simp only [Bool.or_eq_true,beq_iff_eq] at this
  rcases this with q | q
  ·exact .inl q
  ·exact .inr ⟨q,vA (.inr (zP q))⟩
 refine codeAny_call_function hroom ho' hd k2 k3 K.body (K.code.keeps I.keep) (K.bind s I.keep cargs hclen _ _ _ _ ?_)
 rw [K.clo]
 refine wpAny_newFunctionEnv_cells k1 (hkind _) fun env' he s₁ x=>?_
 subst he
 refine ⟨(K.lim.keeps I.keep).keeps x.toInCall.keep,codeAny_func ?_⟩
 obtain ⟨h₁,tk,es,hk₁⟩:=x.done
 generalize hLL:s.heap.objs.size=LL at x
 have hLn:s.heap.get? LL=none:=hLL ▸ xI _
 generalize hce:newEnv fd.scope LL fd.globals (cellsFrom (LL+1) fd.scope.names []) (fd.qualname++".<locals>.") (some f) fd.code none fd.builtins=cenv at x
 have c1:cenv.scope=fd.scope:=by rw [← hce]; rfl
 have c2:cenv.locals=LL:=by rw [← hce]; rfl
 have c3:cenv.cells=cellsFrom (LL+1) fd.scope.names []:=by rw [← hce]; rfl
 have c4:cenv.globals=mainGlobals:=by rw [← hce]; exact K.glob
 have c5:cenv.builtins=builtinsNs:=by rw [← hce]; exact K.bns
 have c6:cenv.frame=some LL:=by rw [← hce]; rfl
 have c7:∀ y,cenv.kindOf y=fd.scope.names.lookup y:=fun y=>by unfold Env.kindOf; rw [c1]
 have g1:s₁.gens=s.gens:=by rw [es]
 have g2:s₁.os=s.os:=by rw [es]
 have hk₂:∀ b o,s.heap.get? b=some o→s₁.heap.get? b=some o:=fun b o e=>by rw [es]; exact hk₁ b o e
 have st₀:Step P fr env W σ s W σ s₁:=Step.grow I L hk₂ g1 g2
 have hmemcell:∀ (names:List (Str×NameKind)) (n:Nat) (acc:List (Str×Addr)) (y:Str) (c:Addr),(y,c)∈cellsFrom n names acc→(y,c)∈acc∨(y,NameKind.cell)∈names:=by
  intro names
  induction names with
  | nil=>exact fun _ _ _ _ h=>.inl h
  | cons hd' tl ih =>
   intro n acc y c h
   obtain ⟨z,kz⟩:=hd'
   unfold cellsFrom at h
   split at h
   ·rename_i hz
    rcases ih _ _ _ _ h with q | q
    ·rcases List.mem_cons.mp q with q | q
     ·cases q; right; rw [show kz=NameKind.cell from by simpa using hz]; exact .head _
     ·exact .inl q
    ·exact .inr (.tail _ q)
   ·rcases ih _ _ _ _ h with q | q
    ·exact .inl q
    ·exact .inr (.tail _ q)
 have hndcell:∀ (names:List (Str×NameKind)) (n:Nat) (acc:List (Str×Addr)),keyed names=true→(acc.map (·.1)).Nodup→(∀ p∈acc,∀ q∈names,q.1≠p.1)→((cellsFrom n names acc).map (·.1)).Nodup:=by
  intro names
  induction names with
  | nil=>exact fun _ _ _ h _=>h
  | cons hd' tl ih =>
   intro n acc hky hnd hap
   obtain ⟨z,kz⟩:=hd'
   simp only [keyed,Bool.and_eq_true] at hky
   unfold cellsFrom
   split
   ·refine ih _ _ hky.2 ?_ fun p hp q hq=>?_
    ·simp only [List.map_cons,List.nodup_cons]
     refine ⟨fun hm=>?_,hnd⟩
     obtain ⟨p,hp,e⟩:=List.mem_map.mp hm
     exact hap p hp _ (.head _) e.symm
    ·rcases List.mem_cons.mp hp with e | e
     ·subst e; have:=List.all_eq_true.mp hky.1 q hq; simpa using this
     ·exact hap p e q (.tail _ hq)
   ·exact ih _ _ hky.2 hnd fun p hp q hq=>hap p hp q (.tail _ hq)
 have hcellAt:∀ y c,(y,c)∈cellsFrom (LL+1) fd.scope.names []→s₁.heap.IsCell c (bindC cenv.kindOf (ps.zip cargs) (fun _=>none) y):=fun y c hm=>by
  refine x.cell y c ?_
  rw [c3]
  exact lookup_of_mem_nodup (hndcell _ _ _ k4 (by simp) fun p hp=>by cases hp) hm
 have hrel:∀ y,Ro W σ.nxt ((ps.zip args).lookup y) (bindC cenv.kindOf (ps.zip cargs) (fun _=>none) y)∨∀ c,(y,c) ∉ cellsFrom (LL+1) fd.scope.names []:=fun y=>by
  by_cases hy:(y,NameKind.cell)∈fd.scope.names
  ·left
   have hl':fd.scope.names.lookup y=some .cell:=jH k4 hy
   rw [qCn (by rw [c7,hl']; intro q; cases q) k6]
   have:=wI y ps ha
   cases h1:(ps.zip cargs).lookup y with
   | none=>rw [h1] at this; simpa using this
   | some c=>rw [h1] at this; simpa using this
  ·right
   intro c hm
   rcases hmemcell _ _ _ _ _ hm with q | q
   ·cases q
   ·exact hy q
 obtain ⟨W₁,st₁,oL,hcel⟩:=qCi (L:=LL) (bv:=ps.zip args) hcellAt hrel fd.scope.names (LL+1) [] [] σ.toHp W (fun p hp=>hp) st₀ hLn (Nat.lt_succ_self _) (by lia) (Out.new I hLn)
  (fun a h=>Out.new I (Heap.get?_none_of_le (by lia))) (fun y k h=>by cases h)
 obtain ⟨oF,fes,fep,f1,f2,f3⟩:=x.toInCall.ns
 rw [c2] at f1
 have I₁:Inv P (LL::fr) W₁ (entryC fd.scope (ps.zip args) σ.toHp).toHp s₁:=Inv.under (σ:={ σ with toHp:=(qK (ps.zip args) fd.scope.names σ.toHp []).1 }) st₁.inv oL f1 fun vs q=>by rw [f2] at q; cases q
 have L₁:Loc P cenv W₁ (entryC fd.scope (ps.zip args) σ.toHp) s₁.heap:=by
  refine ⟨by rw [c1]; exact k1,c4,c5,⟨_,x.toInCall.ns,fun y v h=>?_⟩,fun y k h=>?_,fun k q h=>by cases h⟩
  ·have hf:∀ (l:List (Str×V)),(l.filter (fun p=>fd.scope.names.lookup p.1 == some .local)).lookup y=some v→fd.scope.names.lookup y=some .local∧l.lookup y=some v:=by
    intro l
    induction l with
    | nil=>intro h; cases h
    | cons hd' tl ih =>
     intro h
     obtain ⟨z,u⟩:=hd'
     simp only [List.filter] at h
     cases hz:(fd.scope.names.lookup z == some NameKind.local) with
     | true =>
      rw [hz] at h
      simp only [List.lookup] at h ⊢
      cases hq:y == z with
      | true =>
       rw [hq] at h
       have e:y=z:=by simpa using hq
       subst e
       exact ⟨by simpa using hz,h⟩
      | false=>rw [hq] at h; exact ih h
     | false =>
      rw [hz] at h
      obtain ⟨p1,p2⟩:=ih h
      refine ⟨p1,?_⟩
      simp only [List.lookup]
      cases hq:y == z with
      | true =>
       have e:y=z:=by simpa using hq
       subst e
       rw [p1] at hz; simp at hz
      | false=>exact p2
   obtain ⟨p1,p2⟩:=hf _ h
   have hr:=wI y ps ha
   rw [p2] at hr
   refine ⟨by rw [c7]; exact p1,?_⟩
   cases h1:(ps.zip cargs).lookup y with
   | none=>rw [h1] at hr; exact hr.elim
   | some c =>
    rw [h1] at hr
    refine ⟨c,?_,VR.mono st₁.nx.wle st₁.nx.le hr⟩
    rw [qCm k6,c7,p1,h1]
    rfl
  ·obtain ⟨p,q⟩:=hcel y k h
   exact ⟨p,fun _=>by rw [c3]; exact q⟩
 have S₁:ScOk fd.scope cenv:=by
  refine ⟨fun y h=>by rw [c7]; exact h,fun y h=>by rw [c7]; exact h,fun y h=>by rw [c7]; exact h,fun y h=>by rw [c7]; exact h,fun y h=>?_⟩
  rw [c7] at h
  rw [c3]
  rcases h with h | h
  ·have:=vA (n:=LL+1) (acc:=[]) (.inr (zP h))
   exact Option.isSome_iff_exists.mp this
  ·have:=List.all_eq_true.mp k5 _ (zP h)
   simp at this
 obtain ⟨lf,hlf,hfm⟩:=F.frames
 have F₁:FmS P lv (LL::fr) (A.deeper cenv) cenv:=by
  refine ⟨⟨by rw [c2]; exact .head _,F.handled,by have:=F.units; show A.units+3+_+_ < _; lia,by have:=F.depth; show A.depth+1+_+_ < _; lia,cenv::lf,by show A.frames.map _=_; rw [hlf]; rfl,fun e he=>?_⟩,⟨lf,by show A.frames.map _=_; rw [hlf]; rfl⟩,by rw [c2]; exact c6⟩
  rcases List.mem_cons.mp he with q | q
  ·subst q; exact ⟨by rw [c1,k1]; decide,LL,c6,.head _⟩
  ·obtain ⟨a1,Lx,a2,a3⟩:=hfm e q; exact ⟨a1,Lx,a2,.tail _ a3⟩
 have hLC:LL≠env.locals:=fun q=>by
  have:=(I.frB _ F.hL).2
  obtain ⟨o',e',_⟩:=this
  rw [← q,hLn] at e'; cases e'
 have h0:∀ b o,s.heap.get? b=some o→s₁.heap.get? b=some o:=hk₂
 refine wpAny_mono (hb (LL::fr) _ cenv W₁ _ F₁ S₁ I₁ L₁) (fun fl s₂ ⟨v,σ₂,W₂,e₂,st₂,hv⟩=>?_) (fun e s₂ ⟨H,hrx,W₂,ea,σx,e0,hH,st₂,x₂⟩=>?_)
 ·have stF:=Step.inner (σ₁:=entryC fd.scope (ps.zip args) σ.toHp) st₁ F.hL hLn c2 hLC rfl st₂
  have hret:=hr _ _ e₂
  subst e₂
  cases hv with
  | next=>exact ⟨_,_,W₂,rfl,stF,.none⟩
  | ret hv=>exact ⟨_,_,W₂,rfl,stF,hv⟩
  | brk=>exact absurd rfl hret
  | cont=>exact absurd rfl hret
 ·subst e0
  subst hH
  unfold leaving
  refine wpAny_bind (zGr F₁ st₂.inv x₂ st₂.nx.live fun h' N=>?_)
  have st₃:=st₂.noted (by rw [c2]; exact .head _) N
  have stF:=Step.inner (σ₁:=entryC fd.scope (ps.zip args) σ.toHp) st₁ F.hL hLn c2 hLC rfl st₃
  exact ⟨_,hrx,W₂,ea,rfl,stF,(N.exc.older fun b o e=>⟨o,h0 b o e⟩).outer⟩
theorem qDu {f:Addr} {fd:FuncData} {ps:List Str} {body:List Stmt} (K:FnOk P f fd ps body) (I:Inv P fr W σ.toHp s):vB P.M A (.ref f) s:=fun E Q hq=>by
 obtain ⟨o,ho,hd⟩:=K.there
 unfold keeperOf
 refine wpAny_bind (wpAny_load (I.keep f o ho) ?_)
 rw [hd]
 exact wpAny_pure (hq _)
theorem zHp {sc:Scope} {ps:List Str} {b:S} {args:List V} {H:Hp} (hne:(jU sc ps b cx args H).lift σ≠.bad):args.length=ps.length∧((ex b cx (entryC sc (ps.zip args) H)).bind qQc)≠.bad:=by
 have hlen:args.length=ps.length:=by
  refine Decidable.byContradiction fun q=>hne ?_
  unfold jU; rw [if_neg q]; rfl
 refine ⟨hlen,fun q=>hne ?_⟩
 unfold jU; rw [if_pos hlen,q]; rfl
theorem qYl {f:Addr} {fd:FuncData} {ps:List Str} {body:List Stmt} (K:FnOk P f fd ps body) (C:SxOk P cx) {b:S} (hb:TieS b fd.scope (.l body))
  (F:Fm P (cx.lvl+1) fr A env) (I:Inv P fr W σ.toHp s) (L:Loc P env W σ s.heap) {args:List V} {cargs:List Value} (ha:VRs W σ.nxt args cargs) (hne:(jU fd.scope ps b cx args σ.toHp).lift σ≠.bad) :
  codeAny P.M A (.call (.ref f) ⟨cargs,[]⟩) (fun r s'=>match r with | .ok (.ret v)=>Post P fr env W σ s ((jU fd.scope ps b cx args σ.toHp).lift σ) v s' | .ok _=>False | .error e=>NoE e s') s:=by
 obtain ⟨hlen,hn⟩:=zHp hne
 have e:jU fd.scope ps b cx args σ.toHp=(ex b cx (entryC fd.scope (ps.zip args) σ.toHp)).bind qQc:=if_pos hlen
 rw [e]
 refine codeAny_mono (qEh K (rx:=none) (r:=ex b cx (entryC fd.scope (ps.zip args) σ.toHp)) (fun fr A env W s F S I L=>wpAny_mono (qTq hb cx C fr A env F S W _ s I L (Rs.bind_ne hn)) (fun _ _ h=>h) fun _ _ h=>h.elim) F I L ha hlen (fun fl σ' q=>by rw [q] at hn; exact hn)) fun r s' h=>?_
 match r with
 | .ok (.ret v)=>exact h
 | .ok .next=>exact h
 | .ok .brk=>exact h
 | .ok .cont=>exact h
 | .error e=>obtain ⟨H,q,_⟩:=h; cases q
end
noncomputable def yG (ps:List Str) (x:X) (cs:List (Str×Nat)) (cx:Cx) (args:List V) (H:Hp):Rs V :=
 if args.length=ps.length then ev cx x { toHp:=H,loc:=ps.zip args,cel:=cs } else .bad
theorem qBu {x:Str}:∀ {ps:List Str} {cs:List Value},distinct ps=true→(ps.zip cs).reverse.lookup x=(ps.zip cs).lookup x
 | [],_,_=>by simp
 | p::ps,[],_=>by simp
 | p::ps,c::cs,h=>by
  simp only [distinct,Bool.and_eq_true] at h
  rw [List.zip_cons_cons,List.reverse_cons,List.lookup_append,qBu h.2]
  cases hq:x == p with
  | true =>
   have e:x=p:=by simpa using hq
   subst e
   rw [xK h.1]
   simp [List.lookup]
  | false =>
   simp only [List.lookup,hq]
   cases (ps.zip cs).lookup x <;> rfl
section
variable {P:Par} {fr:List Nat} {A:Around} {env:Env} {W W':Wd} {σ σ':St} {s s':Shared} {cx:Cx}
theorem qYm (C:CxOk P cx) (hlim:P.B.NoLimit) (F:Fm P (cx.lvl+1) fr A env) (I:Inv P fr W σ.toHp s) (L:Loc P env W σ s.heap) {ps:List Str} {x:X} {cs:List (Str×Nat)} {cf:Value} (hv:VR W σ.nxt (.clo ps x cs) cf)
  {args:List V} {cargs:List Value} (ha:VRs W σ.nxt args cargs) (hne:(yG ps x cs cx args σ.toHp).lift σ≠.bad) :
  vB P.M A cf s∧wpAny P.M A (call cf cargs []) (Post P fr env W σ s ((yG ps x cs cx args σ.toHp).lift σ)) NoE s:=by
 cases hv with
 | clo hfz hd K =>
 rename_i f o fd
 have ho':=(I.frz _ _ hfz).1
 refine ⟨fun E Q hq=>?_,wpAny_call ?_⟩
 ·unfold keeperOf
  refine wpAny_bind (wpAny_load ho' ?_)
  rw [hd]
  exact wpAny_pure (hq _)
 have hlen:args.length=ps.length:=by
  refine Decidable.byContradiction fun q=>hne ?_
  unfold yG; rw [if_neg q]; rfl
 have hrun:yG ps x cs cx args σ.toHp=ev cx x { toHp:=σ.toHp,loc:=ps.zip args,cel:=cs }:=by unfold yG; rw [if_pos hlen]
 rw [hrun] at hne ⊢
 have hclen:cargs.length=ps.length:=ha.length.trans hlen
 have hsh:=K.shape
 simp only [jX,Bool.and_eq_true,beq_iff_eq,Bool.not_eq_true'] at hsh
 obtain ⟨⟨⟨⟨⟨⟨k1,k2⟩,k3⟩,k4⟩,k6⟩,k7⟩,k5⟩:=hsh
 obtain ⟨body,hbody,hok⟩:=K.body
 obtain ⟨c,oc,vs,t,e1,e2,e3,e4⟩:=K.code
 have hroom:A.depth < recursionLimit:=by have:=F.depth; lia
 have hnocell:∀ y∈fd.scope.names,y.2≠.cell:=fun y hy q=>by
  have:=List.all_eq_true.mp k5 _ hy; rw [q] at this; exact absurd this (by decide)
 refine kla_callFunE hroom ho' hd k2 k3 hbody ⟨c,oc,vs,t,e1,(I.frz _ _ e2).1,e3,e4⟩ ?_
 rw [K.args cargs hclen]
 refine wpAny_pure (wpAny_newFunctionEnv hnocell (fun y hy=>?_) (fun h₁ hns hsb=>⟨?_,?_⟩) k1)
 ·have hp:y.1∈ps:=(List.of_mem_zip (a:=y.1) (b:=y.2) hy).1
  have:=List.all_eq_true.mp k7 _ hp
  simpa using this
 ·exact (hlim.keeps I.keep).fresh _ hsb
 have hk₁:∀ b o,s.heap.get? b=some o→h₁.get? b=some o:=fun b o e=>hsb.extBut b o (Nat.ne_of_lt (Heap.lt_size e)) (Heap.get?_push_of_some _ e)
 generalize hLL:s.heap.objs.size=LL at hns hsb
 have hLn:s.heap.get? LL=none:=hLL ▸ xI _
 generalize hce:newEnv fd.scope LL fd.globals fd.closure (fd.qualname++".<locals>.") (some f) fd.code none fd.builtins=cenv
 have c1:cenv.scope=fd.scope:=by rw [← hce]; rfl
 have c2:cenv.locals=LL:=by rw [← hce]; rfl
 have c3:cenv.cells=fd.closure:=by rw [← hce]; rfl
 have c4:cenv.globals=mainGlobals:=by rw [← hce]; exact K.glob
 have c5:cenv.builtins=builtinsNs:=by rw [← hce]; exact K.bns
 have c6:cenv.frame=some LL:=by rw [← hce]; rfl
 have c7:∀ y,cenv.kindOf y=fd.scope.names.lookup y:=fun y=>by unfold Env.kindOf; rw [c1]
 have st₀:Step P fr env W σ s W σ { s with heap:=h₁,toks:=s.toks+(ps.zip cargs).length }:=Step.grow I L hk₁ rfl rfl
 obtain ⟨oF,fes,fep,f1,f2,f3⟩:=id hns
 have oL:Out P fr W σ.nxt LL:=Out.new I hLn
 have I₁:Inv P (LL::fr) W ({ toHp:=σ.toHp,loc:=ps.zip args,cel:=cs }:St).toHp { s with heap:=h₁,toks:=s.toks+(ps.zip cargs).length }:=Inv.under (σ:=σ) st₀.inv oL f1 fun vs q=>by rw [f2] at q; cases q
 have L₁:Loc P cenv W { toHp:=σ.toHp,loc:=ps.zip args,cel:=cs } h₁:=by
  refine ⟨by rw [c1]; exact k1,c4,c5,⟨_,by rw [c2]; exact hns,fun y v h=>?_⟩,fun y k h=>?_,fun k q h=>by cases h⟩
  ·have hr:=wI y ps ha
   have h':(ps.zip args).lookup y=some v:=h
   rw [h'] at hr
   have hp:y∈ps:=(List.of_mem_zip (qR h')).1
   have hl:=List.all_eq_true.mp k7 _ hp
   refine ⟨by rw [c7]; simpa using hl,?_⟩
   cases h1:(ps.zip cargs).lookup y with
   | none=>rw [h1] at hr; exact hr.elim
   | some c=>rw [h1] at hr; exact ⟨c,by rw [qBu k6]; exact h1,hr⟩
  ·obtain ⟨p,q⟩:=K.cel y k h
   refine ⟨p,fun hk=>?_⟩
   rw [c7] at hk
   rw [c3]
   rcases hk with hk | hk
   ·exact absurd rfl (hnocell _ (qR hk))
   ·exact q hk
 have S₁:ScOk fd.scope cenv:=by
  refine ⟨fun y h=>by rw [c7]; exact h,fun y h=>by rw [c7]; exact h,fun y h=>by rw [c7]; exact h,fun y h=>by rw [c7]; exact h,fun y h=>?_⟩
  rw [c7] at h
  rw [c3]
  rcases h with h | h
  ·exact absurd rfl (hnocell _ (qR h))
  ·exact K.free y h
 obtain ⟨lf,hlf,hfm⟩:=F.frames
 have F₁:Fm P cx.lvl (LL::fr) (A.deeper cenv) cenv:=by
  refine ⟨by rw [c2]; exact .head _,F.handled,by have:=F.units; show A.units+3+_+_ < _; lia,by have:=F.depth; show A.depth+1+_+_ < _; lia,cenv::lf,by show A.frames.map _=_; rw [hlf]; rfl,fun e he=>?_⟩
  rcases List.mem_cons.mp he with q | q
  ·subst q; exact ⟨by rw [c1,k1]; decide,LL,c6,.head _⟩
  ·obtain ⟨a1,Lx,a2,a3⟩:=hfm e q; exact ⟨a1,Lx,a2,.tail _ a3⟩
 have hne₁:ev cx x { toHp:=σ.toHp,loc:=ps.zip args,cel:=cs }≠.bad:=by intro q; rw [q] at hne; exact hne rfl
 have hLC:LL≠env.locals:=fun q=>by
  obtain ⟨o',e',_⟩:=(I.frB _ F.hL).2
  rw [← q,hLn] at e'; cases e'
 refine kla_codeExpr (wpAny_mono ((sound C hok (LL::fr) _ cenv F₁ S₁).1 W _ _ I₁ L₁ hne₁) (fun v s₂ ⟨r,σ₂,W₂,e₂,st₂,hr⟩=>?_) (fun e s₂ h=>h.elim))
 have stF:=Step.inner (σ₁:={ toHp:=σ.toHp,loc:=ps.zip args,cel:=cs }) st₀ F.hL hLn c2 hLC rfl st₂
 exact ⟨r,_,W₂,by rw [e₂]; rfl,stF,hr⟩
end
section
variable {W:Wd} {n:Nat}
theorem FR.find {x:Str}:∀ {fs:List (Str×V)} {es:List DictEntry},FR W n fs es→Ro W n (fs.lookup x) ((es.find? (·.key.isStr x)).map (·.val))∧es.any (·.refKey)=false
 | _,_,.nil=>⟨trivial,rfl⟩
 | _,_,.cons (x:=y) (t:=t) hv r=>by
  obtain ⟨h1,h2⟩:=FR.find (x:=x) r
  simp only [List.lookup,List.find?]
  have e:(Value.str y t).isStr x=(y == x):=rfl
  rw [e]
  cases hq:x == y with
  | true =>
   have:y=x:=by simpa using (by simpa using hq:x=y).symm
   subst this
   simp only [beq_self_eq_true,Option.map_some]
   exact ⟨hv,by simpa [DictEntry.refKey] using h2⟩
  | false =>
   have:(y == x)=false:=by simpa using fun q=>(by simpa using hq:x≠y) q.symm
   rw [this]
   exact ⟨h1,by simpa [DictEntry.refKey] using h2⟩
theorem FR.look {x:Str} {fs:List (Str×V)} {es:List DictEntry} {e:Nat} (h:FR W n fs es):∃ r,lookIn x (dictOf es e)=some r∧Ro W n (fs.lookup x) r:=by
 obtain ⟨h1,h2⟩:=FR.find (x:=x) h
 unfold lookIn
 dsimp only
 cases hq:es.find? (·.key.isStr x) with
 | none=>rw [hq] at h1; dsimp only; rw [if_neg (by rw [h2]; decide)]; exact ⟨none,rfl,h1⟩
 | some en=>rw [hq] at h1; exact ⟨some en.val,rfl,h1⟩
theorem FR.put {x:Str} {v:V} {c:Value} {hs:Int} {t:Tok} {f:Option DictEntry→DictEntry} (f0:f none=⟨hs,.str x t,c⟩) (f1:∀ e,f (some e)={ e with val:=c }) (hv:VR W n v c):∀ {fs:List (Str×V)} {es:List DictEntry},FR W n fs es →
  ∀ {es':List DictEntry} {b:Bool},nsPutIn x.cps.size x.cps.toList f es=(es',b)→FR W n (setF x v fs) es'∧es'.length≤es.length+1
 | _,_,.nil,es',b,h=>by
  unfold nsPutIn at h
  cases h
  rw [f0]
  exact ⟨.cons hv .nil,by simp⟩
 | _,_,.cons (x:=y) (t:=u) (fs:=fs) (es:=es) hy r,es',b,h=>by
  have e:(Value.str y u).isStrByCps x.cps.size x.cps.toList=(y == x):=Value.isStrByCps_eq _ _
  unfold nsPutIn at h
  unfold setF
  dsimp only at h
  rw [e] at h
  cases hq:x == y with
  | true =>
   have:y=x:=by simpa using (by simpa using hq:x=y).symm
   subst this
   rw [if_pos (by simp)] at h
   rw [if_pos rfl]
   cases h
   rw [f1]
   exact ⟨.cons hv r,by simp⟩
  | false =>
   have:(y == x)=false:=by simpa using fun q=>(by simpa using hq:x≠y) q.symm
   rw [this,if_neg (by decide)] at h
   rw [if_neg (by decide)]
   cases hp:nsPutIn x.cps.size x.cps.toList f es with
   | mk es₁ b₁ =>
    rw [hp] at h
    cases h
    obtain ⟨e2,e3⟩:=FR.put f0 f1 hv r hp
    exact ⟨.cons hy e2,by simp; lia⟩
theorem FR.putName {x:Str} {v:V} {c:Value} {hs:Int} {t:Tok} {e:Nat} {fs:List (Str×V)} {es:List DictEntry} (hv:VR W n v c) (h:FR W n fs es) :
  ∃ es' e',Obj.putName x hs (.str x t) c (dictOf es e)=dictOf es' e'∧FR W n (setF x v fs) es'∧es'.length≤es.length+1:=by
 unfold Obj.putName
 dsimp only
 split
 ·rename_i es' hp
  obtain ⟨e2,e3⟩:=FR.put rfl (fun _=>rfl) hv h hp
  exact ⟨_,_,rfl,e2,e3⟩
 ·rename_i es' hp
  obtain ⟨e2,e3⟩:=FR.put rfl (fun _=>rfl) hv h hp
  exact ⟨_,_,rfl,e2,e3⟩
theorem FR.length:∀ {fs:List (Str×V)} {es:List DictEntry},FR W n fs es→es.length=fs.length
 | _,_,.nil=>rfl
 | _,_,.cons _ r=>by simp [FR.length r]
end
structure ClsOk (P:Par) (K:Frag) (C:Addr):Prop where
 inn:K.In P.B
 makes:makesIn K C=true
 ga:findIn K (.ref C) "__getattribute__" = some (some (.builtin "object.__getattribute__"))
 gt:findIn K (.ref C) "__getattr__" = some none
 sa:findIn K (.ref C) "__setattr__" = some (some (.builtin "object.__setattr__"))
 plain:plainOver K C=true
 dict:hasDictIn K C=true
section
variable {P:Par} {fr:List Nat} {A:Around} {env:Env} {W W':Wd} {σ σ':St} {s s':Shared} {cx:Sx} {K:Frag} {C:Addr}
theorem qFg (I:Inv P fr W σ.toHp s) {k d:Nat} {fs:List (Str×V)} (hk:σ.obj k=some (.inst C d)) (hd:σ.obj d=some (.dict fs)) :
  ∃ es e,FR W σ.nxt fs es∧d < σ.nxt∧k < σ.nxt∧s.heap.get? (W.ρ d)=some (dictOf es e)∧InstAt s.heap (W.ρ k) (instObj C (W.ρ d)) C (some (dictOf es e)):=by
 obtain ⟨p,c,h1,h2⟩:=I.obj k _ hk
 obtain ⟨q,c',h3,h4⟩:=I.obj d _ hd
 cases h2
 cases h4 with
 | dict h5=>exact ⟨_,_,h5,q,p,h3,h1,rfl,rfl,h3⟩
theorem get_field {Q:Value→Shared→Prop} {E:Value→Shared→Prop} (X:ClsOk P K C) (I:Inv P fr W σ.toHp s) {k d:Nat} {fs:List (Str×V)} (hk:σ.obj k=some (.inst C d)) (hd:σ.obj d=some (.dict fs)) {f:Str} {v:V} (hf:findIn K (.ref C) f=some none)
  (hv:fs.lookup f=some v) (hh:∀ c,VR W σ.nxt v c→handedIn c=true) (hQ:∀ c t,VR W σ.nxt v c→Q c { s with toks:=t }):wpAny P.M A (getAttr (.ref (W.ρ k)) f true) Q E s:=by
 obtain ⟨es,e,hr,_,_,h1,ia⟩:=qFg I hk hd
 obtain ⟨r,h2,h3⟩:=hr.look (x:=f) (e:=e)
 rw [hv] at h3
 cases r with
 | none=>exact h3.elim
 | some c=>exact get_value (X.inn.keeps I.keep) ia X.ga (findObj_own X.dict hf rfl h2) (hh c h3) (hQ c _ h3)
theorem qWr {Q:Value×List Value→Shared→Prop} {E:Value→Shared→Prop} {pl:Sem Bool} (X:ClsOk P K C) (I:Inv P fr W σ.toHp s) {k d:Nat} {fs:List (Str×V)} (hk:σ.obj k=some (.inst C d)) (hd:σ.obj d=some (.dict fs)) {f:Str} {g:Addr} (hf:findIn K (.ref C) f=some (some (.ref g)))
  (hg:typeIn K (.ref g)=some (.type "function")) (hv:fs.lookup f=none) (hQ:Q (.ref g,[.ref (W.ρ k)]) s):wpAny P.M A (getMethod (.ref (W.ρ k)) f pl) Q E s:=by
 obtain ⟨es,e,hr,_,_,h1,ia⟩:=qFg I hk hd
 obtain ⟨r,h2,h3⟩:=hr.look (x:=f) (e:=e)
 rw [hv] at h3
 cases r with
 | some _=>exact h3.elim
 | none=>exact method_fn (X.inn.keeps I.keep) ia X.ga X.gt hf hg (by show Option.map (·.isSome) (lookIn f (dictOf es e))=_; rw [h2]; rfl) hQ
theorem qPr {Q:Unit→Shared→Prop} {E:Value→Shared→Prop} (X:ClsOk P K C) (I:Inv P fr W σ.toHp s) (L:Loc P env W σ s.heap) (hL:env.locals∈fr) {k d:Nat} {fs:List (Str×V)} (hk:σ.obj k=some (.inst C d)) (hd:σ.obj d=some (.dict fs)) {f:Str} {v:V} {c:Value} (hf:findIn K (.ref C) f=some none)
  (hl:fs.length≤100) (hv:VR W σ.nxt v c) (hQ:∀ s',Step P fr env W σ s W (σ.put d (.dict (setF f v fs))) s'→Q () s'):wpAny P.M A (setAttr (.ref (W.ρ k)) f c) Q E s:=by
 obtain ⟨es,e,hr,hdn,hkn,h1,ia⟩:=qFg I hk hd
 refine set_plain (X.inn.keeps I.keep) ia X.sa ?_
 have I':=I.toks (s.toks+1)
 refine osa_open (s:={ s with toks:=s.toks+1 }) (r:=none) (X.inn.keeps I.keep) ia X.plain (by unfold takerIn; rw [hf]; rfl) fun b=>?_
 obtain ⟨cd,hc,hd'⟩:=any_some X.dict
 obtain ⟨es',e',p1,p2,p3⟩:=hr.putName (x:=f) (hs:=PyData.keyHash P.w.params f) (t:=s.toks+1) (e:=e) hv
 obtain ⟨hx,hcl,hn,-⟩:=ia
 refine wpAny_bind (wpAny_pure (wpAny_bind (wpAny_bind (wpAny_loadPart hx (wpAny_bind ((looks_clsIn (X.inn.keeps I'.keep) hc).here ?_))))))
 rw [hd']
 refine wpAny_pure (a:=some (W.ρ d)) (wpAny_bind (wpAny_pure (wpAny_bind ?_)))
 unfold nsSet
 refine wpAny_bind (wpAny_bind (wpAny_askSetting (wpAny_pure (wpAny_bind (wpAny_mkText (wpAny_bind (wpAny_loadPart h1 ?_)))))))
 dsimp only
 have hnr:=(FR.find (x:=f) hr).2
 have c0:(!es.toArray.any (·.key.isStr f) && es.toArray.any (·.refKey))=false:=by
  rw [← Array.any_toList,← Array.any_toList,List.toList_toArray,hnr,Bool.and_false]
 rw [aRefKeyMayBeTheName_at,c0]
 refine wpAny_updatePart h1 ?_
 have hu:(s.heap.update (W.ρ d) (Obj.putName f (PyData.keyHash P.w.params f) (.str f (s.toks+1)) c)).get? (W.ρ d)=some (dictOf es' e'):=by
  have:=Heap.get?_update_self (Obj.putName f (PyData.keyHash P.w.params f) (.str f (s.toks+1)) c) h1 (by rw [p1]; rfl)
  rw [p1] at this; exact this
 refine wpAny_bind (wpAny_lookBehind hu (pastItsLine_dict (by rw [List.size_toArray,sizeLine_eq]; have:=hr.length; lia)) ?_)
 refine wpAny_pure ?_
 exact hQ _ (Step.put I L hdn hL (.dict (setF f v fs)) (.dict p2) (fun b o hb e=>((Heap.SameBut.update ..).2 b hb).trans e) hu rfl rfl)
end
noncomputable def qHn (C:Addr) (init:List V→Hp→Rs V) (args:List V) (H:Hp):Rs V :=
 match init (.ref (H.nxt+1)::args) ((H.add (.dict [])).add (.inst C H.nxt)) with
 | .ok .none σ=>.ok (.ref (H.nxt+1)) σ
 | _=>.bad
section
variable {P:Par} {fr:List Nat} {A:Around} {env:Env} {W W':Wd} {σ σ':St} {s s':Shared} {cx:Sx} {K:Frag} {C:Addr}
theorem Fm.under {lv lv':Nat} {C:Addr} {as:List Value} (F:Fm P lv fr A env) (h:lv'+1≤lv):Fm P lv' fr (A.under (.builtin "type.__call__" ⟨.ref C::as,[]⟩)) env:=by
 have e1:(A.under (.builtin "type.__call__" ⟨.ref C::as,[]⟩)).depth=A.depth+1:=rfl
 have e2:(A.under (.builtin "type.__call__" ⟨.ref C::as,[]⟩)).units=A.units+1:=rfl
 have e3:(A.under (.builtin "type.__call__" ⟨.ref C::as,[]⟩)).frames=A.frames:=rfl
 refine ⟨F.hL,F.handled,?_,?_,by rw [e3]; exact F.frames⟩
 ·have:=F.units; rw [e2]; lia
 ·have:=F.depth; rw [e1]; lia
theorem make_inst {lv:Nat} {init:List V→Hp→Rs V} {fI:Addr} (X:ClsOk P K C) (hi:findIn K (.ref C) "__init__" = some (some (.ref fI))) (hf:typeIn K (.ref fI)=some (.type "function"))
    (hc:∀ fr A env,Fm P lv fr A env→∀ W σ s,Inv P fr W σ.toHp s→Loc P env W σ s.heap→∀ args cargs,VRs W σ.nxt args cargs→(init args σ.toHp).lift σ≠.bad →
      codeAny P.M A (.call (.ref fI) ⟨cargs,[]⟩) (fun r s'=>match r with | .ok (.ret v)=>Post P fr env W σ s ((init args σ.toHp).lift σ) v s' | .ok _=>False | .error e=>NoE e s') s)
    (F:Fm P (lv+1) fr A env) (I:Inv P fr W σ.toHp s) (L:Loc P env W σ s.heap) {args:List V} {cargs:List Value} (ha:VRs W σ.nxt args cargs) (hne:(qHn C init args σ.toHp).lift σ≠.bad) :
    vB P.M A (.ref C) s∧wpAny P.M A (call (.ref C) cargs []) (Post P fr env W σ s ((qHn C init args σ.toHp).lift σ)) NoE s:=by
  have Y:=makes_of (M:=P.M) (X.inn.keeps I.keep) X.makes
  obtain ⟨⟨oc,od,cd,sl,hC,e1,e2,e4⟩,made,base,self,top,call,typ⟩:=Y
  refine ⟨fun E Q hq=>?_,?_⟩
  · unfold keeperOf
    refine wpAny_bind (wpAny_load hC ?_)
    dsimp only
    obtain ⟨hh,g,d,t,os⟩:=s
    refine wpAny_bind (call.at ?_)
    exact wpAny_pure (hq _)
  obtain ⟨hh,g,d,t,os⟩:=s
  have Y:=makes_of (M:=P.M) (X.inn.keeps I.keep) X.makes
  refine wpAny_call (make_core Y (looks_findIn (X.inn.keeps I.keep) hi) (fun self=>bind_fn (X.inn.keeps I.keep) self hf) (.inl rfl) ?_)
  have st₁:=Step.add (s:=⟨hh,g,d,t,os⟩) (s':=⟨hh.push emptyDict,g,d,t,os⟩) I L (.dict []) emptyDict (.dict (es:=[]) .nil) rfl rfl rfl
  have hd₁:(W.add σ.nxt hh.objs.size).ρ σ.nxt=hh.objs.size:=by show (if σ.nxt=σ.nxt then _ else _)=_; rw [if_pos rfl]
  have hor:OR ((W.add σ.nxt hh.objs.size).add (σ.nxt+1) (hh.push emptyDict).objs.size) (σ.nxt+1+1) (.inst C σ.nxt) (instObj C hh.objs.size):=by
    have hl:=(W.add σ.nxt hh.objs.size).add_le (σ.nxt+1) (hh.push emptyDict).objs.size
    have key:=OR.inst (W:=(W.add σ.nxt hh.objs.size).add (σ.nxt+1) (hh.push emptyDict).objs.size) (n:=σ.nxt+1+1) (C:=C) (d:=σ.nxt) (by lia)
    rw [hl.ρ σ.nxt (Nat.lt_succ_self _),hd₁] at key
    exact key
  have st₂:=Step.add (s:=⟨hh.push emptyDict,g,d,t,os⟩) (s':=⟨(hh.push emptyDict).push (instObj C hh.objs.size),g,d,t,os⟩) st₁.inv st₁.loc (.inst C σ.nxt) (instObj C hh.objs.size) hor rfl rfl rfl
  have st:Step P fr env W σ ⟨hh,g,d,t,os⟩ ((W.add σ.nxt hh.objs.size).add (σ.nxt+1) (hh.push emptyDict).objs.size) ((σ.add (.dict [])).add (.inst C σ.nxt)) ⟨(hh.push emptyDict).push (instObj C hh.objs.size),g,d,t,os⟩:=st₁.trans st₂
  generalize hW:((W.add σ.nxt hh.objs.size).add (σ.nxt+1) (hh.push emptyDict).objs.size)=W₂ at st
  have hself:W₂.ρ (σ.nxt+1)=hh.objs.size+1:=by
    rw [← hW]; show (if σ.nxt+1=σ.nxt+1 then _ else _)=_; rw [if_pos rfl,Heap.size_push]
  have hvs:VRs W₂ (σ.nxt+1+1) (.ref (σ.nxt+1)::args) (.ref (hh.objs.size+1)::cargs):=by
    refine .cons ?_ (ha.mono st.nx.wle st.nx.le)
    rw [← hself]
    exact .ref (by lia)
  have hmk:(qHn C init args σ.toHp)=(match init (.ref (σ.nxt+1)::args) ((σ.add (.dict [])).add (.inst C σ.nxt)).toHp with
    | .ok .none σ'=>.ok (.ref (σ.nxt+1)) σ'
      | _=>.bad):=rfl
  have hne':(init (.ref (σ.nxt+1)::args) ((σ.add (.dict [])).add (.inst C σ.nxt)).toHp).lift ((σ.add (.dict [])).add (.inst C σ.nxt))≠.bad:=by
    intro q
    refine hne ?_
    rw [hmk]
    cases hq:init (.ref (σ.nxt+1)::args) ((σ.add (.dict [])).add (.inst C σ.nxt)).toHp with
    | ok v σ'=>rw [hq] at q; cases q
    | bad=>rfl
  refine codeAny_mono (hc fr _ env (F.under (Nat.le_refl _)) W₂ _ _ st.inv st.loc _ _ hvs hne') fun r s' z=>?_
  cases hq:init (.ref (σ.nxt+1)::args) ((σ.add (.dict [])).add (.inst C σ.nxt)).toHp with
  | ok v σ' =>
    rw [hq] at z hmk
    cases r with
    | error e=>exact z.elim
    | ok fl=>cases fl with
     | ret cv =>
      obtain ⟨v',σ₃,W₃,q,st₃,hv⟩:=z
      cases q
      cases v with
      | none =>
        cases hv
        refine ⟨rfl,_,_,W₃,by rw [hmk]; rfl,st.trans st₃,?_⟩
        have:=(VR.ref (W:=W₂) (n:=σ.nxt+1+1) (k:=σ.nxt+1) (by lia)).mono st₃.nx.wle st₃.nx.le
        rw [hself] at this
        exact this
      | _=>rw [hmk] at hne; exact absurd rfl hne
     | _=>exact z.elim
  | bad=>rw [hq] at hmk; rw [hmk] at hne; exact absurd rfl hne
end
noncomputable def okH (v:V) (H:Hp):Rs V:=.ok v { toHp:=H,loc:=[] }
noncomputable def qHo (v:V) (H:Hp):Rs V:=match zO v with
 | some x=>okH (.int x.length) H
 | none=>(qM H v).elim .bad fun xs=>okH (.int xs.length) H
noncomputable def uJ (args:List V) (H:Hp):Rs V:=match args with
 | [a]=>(zW a).elim .bad fun n=>if Builtin.Range.small 0 n 1=true then okH (.rng 0 n 1) H else .bad
 | [a,b]=>(zW a).elim .bad fun a=>(zW b).elim .bad fun b=>if Builtin.Range.small a b 1=true then okH (.rng a b 1) H else .bad
 | [a,b,c]=>(zW a).elim .bad fun a=>(zW b).elim .bad fun b=>(zW c).elim .bad fun c=>if c≠0∧Builtin.divisionGoesByPylong (b - a) c=false∧Builtin.Range.small a b c=true then okH (.rng a b c) H else .bad
 | _=>.bad
noncomputable def zY (v x:V) (H:Hp):Rs V:=match v with
 | .ref k=>(match H.obj k with
  | some (.list xs)=>if xs.length+1≤sizeLine then okH .none { H with obj:=fun j=>if j=k then some (.list (xs++[x])) else H.obj j } else .bad
  | _=>.bad)
 | _=>.bad
section
variable {P:Par} {fr:List Nat} {A:Around} {env:Env} {W W':Wd} {σ σ':St} {s s':Shared} {cx:Sx}
theorem qCz {M:Model} {i:String}:vB M A (.builtin i) s:=fun E Q hq=>wpAny_pure (hq _)
theorem qKy {M:Model} {i:String}:vB M A (.type i) s:=fun E Q hq=>wpAny_pure (hq _)
theorem jD {r:Rs V} {v:V} {c:Value} {t:Nat} (I:Inv P fr W σ.toHp s) (L:Loc P env W σ s.heap) (e:r=okH v σ.toHp) (hv:VR W σ.nxt v c):Post P fr env W σ s (r.lift σ) c { s with toks:=t } :=
 ⟨v,σ,W,by rw [e]; rfl,Step.toks I L t,hv⟩
theorem qWa {r:Rs V} (h:r.lift σ≠.bad):r≠.bad:=fun q=>h (by rw [q]; rfl)
theorem qWb {H:Hp} {v:V} {xs:List V} (hs:zO v=none) (h:qM H v=some xs):qHo v H=okH (.int xs.length) H:=by
 unfold qHo; rw [hs,h]; rfl
theorem zKd (I:Inv P fr W σ.toHp s) (L:Loc P env W σ s.heap) {v:V} {c:Value} (hv:VR W σ.nxt v c) (hne:(qHo v σ.toHp).lift σ≠.bad) :
  wpAny P.M A (call (.builtin "len") [c] []) (Post P fr env W σ s ((qHo v σ.toHp).lift σ)) NoE s:=by
 cases hs:zO v with
 | some x =>
  obtain rfl:=qQ hs
  obtain ⟨t,rfl,hl,_⟩:=hv.inv_str
  exact len_str (by have:=vL; lia) (jD I L rfl (.int _ _))
 | none =>
  have hne':(qM σ.toHp v).elim Rs.bad (fun xs=>okH (.int xs.length) σ.toHp)≠.bad:=fun q=>qWa hne (by unfold qHo; rw [hs]; exact q)
  obtain ⟨xs,hx⟩:=xE hne'
  obtain ⟨a,items,rfl,hl,hr,hz⟩:=zV I hv hx
  refine Calls.call_len_list hl (by have:=vL; lia) (jD I L (qWb hs hx) ?_)
  rw [← hr.length,Array.length_toList]
  exact .int _ _
theorem qEe {o:Option Int} {f:Int→Rs V} {σ:St} (h:(o.elim .bad f).lift σ≠.bad):∃ a,o=some a:=by
 cases o with
 | none=>exact absurd rfl h
 | some a=>exact ⟨a,rfl⟩
theorem ifR {c:Prop} [Decidable c] {a:Rs V} {σ:St} (h:(if c then a else .bad).lift σ≠.bad):c:=by
 by_cases q:c
 ·exact q
 ·rw [if_neg q] at h; exact absurd rfl h
theorem yH (I:Inv P fr W σ.toHp s) (L:Loc P env W σ s.heap) {a b c:Int} {t u v:Tok} (hq:Builtin.Range.small a b c=true) {k:Nat}:Post P fr env W σ s ((okH (.rng a b c) σ.toHp).lift σ) (.ref s.heap.objs.size) { s with heap:=s.heap.push { cls:=.type "range", data:=.fields #[.int a t,.int b u,.int c v] },toks:=k } :=
 ⟨_,_,_,rfl,Step.freeze I L { cls:=.type "range", data:=.fields #[.int a t,.int b u,.int c v] } rfl rfl rfl rfl,.rng (by show (if _=_ then _ else _)=_; rw [if_pos rfl]) hq⟩
theorem range_ok (I:Inv P fr W σ.toHp s) (L:Loc P env W σ s.heap) {args:List V} {cargs:List Value} (ha:VRs W σ.nxt args cargs) (hne:(uJ args σ.toHp).lift σ≠.bad) :
  wpAny P.M A (call (.type "range") cargs []) (Post P fr env W σ s ((uJ args σ.toHp).lift σ)) NoE s:=by
 cases ha with
 | nil=>exact absurd rfl hne
 | cons h1 r =>
  cases r with
  | nil =>
   obtain ⟨n,e⟩:=qEe hne
   obtain rfl:=qS e
   obtain ⟨t,rfl⟩:=h1.inv_int
   have hq:=ifR hne
   show wpAny P.M A _ (Post P fr env W σ s ((if _ then _ else _:Rs V).lift σ)) NoE s
   rw [if_pos hq]
   exact call_range_1 (yH I L hq)
  | cons h2 r =>
   cases r with
   | nil =>
    obtain ⟨a,e⟩:=qEe hne
    obtain rfl:=qS e
    obtain ⟨b,e⟩:=qEe hne
    obtain rfl:=qS e
    obtain ⟨t,rfl⟩:=h1.inv_int
    obtain ⟨u,rfl⟩:=h2.inv_int
    have hq:=ifR hne
    show wpAny P.M A _ (Post P fr env W σ s ((if _ then _ else _:Rs V).lift σ)) NoE s
    rw [if_pos hq]
    exact call_range_2 (yH I L hq)
   | cons h3 r =>
    cases r with
    | nil =>
     obtain ⟨a,e⟩:=qEe hne
     obtain rfl:=qS e
     obtain ⟨b,e⟩:=qEe hne
     obtain rfl:=qS e
     obtain ⟨c,e⟩:=qEe hne
     obtain rfl:=qS e
     obtain ⟨t,rfl⟩:=h1.inv_int
     obtain ⟨u,rfl⟩:=h2.inv_int
     obtain ⟨v,rfl⟩:=h3.inv_int
     have hq:=ifR hne
     show wpAny P.M A _ (Post P fr env W σ s ((if _ then _ else _:Rs V).lift σ)) NoE s
     rw [if_pos hq]
     exact call_range_3 hq.1 (yH I L hq.2.2) (.inl hq.2.1)
    | cons _ _=>exact absurd rfl hne
theorem qSk (I:Inv P fr W σ.toHp s) (L:Loc P env W σ s.heap) (hL:env.locals∈fr) {v x:V} {c d:Value} (hv:VR W σ.nxt v c) (hx:VR W σ.nxt x d) (hne:(zY v x σ.toHp).lift σ≠.bad) :
  wpAny P.M A (call (.builtin "list.append") [c,d] []) (Post P fr env W σ s ((zY v x σ.toHp).lift σ)) NoE s:=by
 unfold zY at hne ⊢
 split at hne
 ·rename_i k
  obtain ⟨rfl,hk⟩:=hv.inv_ref
  ·split at hne
   ·rename_i xs ho
    by_cases hz:xs.length+1≤sizeLine
    ·rw [if_pos hz]
     obtain ⟨_,ob,hg,hr⟩:=I.obj _ _ ho
     obtain ⟨items,e,rfl,r,z⟩:=hr.inv_list
     ·refine call_meets PySem.F.slot_list_append ⟨_,hg,rfl⟩ PySem.F.entry_list_append (PySem.F.args_list_append_2 _ _) (list_append _ items e d z) ⟨hg,?_⟩
      have hu:=IsL.update (n:=e) hg (fun xs=>xs.push d)
      refine ⟨_,σ.put k (.list (xs++[x])),W,rfl,Step.put I L hk hL (.list (xs++[x])) (.list (e:=_) ?_ ?_) (fun b o hb e=>((Heap.SameBut.update ..).2 b hb).trans e) hu rfl rfl,.none⟩
      ·rw [Array.toList_push]; exact r.append (.cons hx .nil)
      ·have:=r.length; rw [Array.length_toList] at this; rw [Array.size_push]; lia
    ·rw [if_neg hz] at hne; exact absurd rfl hne
   ·exact absurd rfl hne
 ·exact absurd rfl hne
end
noncomputable def uG:List V→Option (List Str)
 | []=>some []
 | v::r=>(zO v).bind fun x=>(uG r).map (x::·)
noncomputable def wD (x:Str):Bool:=decide (x.length≤sizeLine) && PyData.strOk x
noncomputable def qIb (a b c:V) (H:Hp):Rs V:=(zO a).elim .bad fun x=>(zO b).elim .bad fun y=>(zW c).elim .bad fun i=>okH (.int (Txt.find3 x y i)) H
noncomputable def qTa (v:V) (H:Hp):Rs V:=(qM H v).elim .bad fun xs=>okH (.tup xs) H
noncomputable def kR (x y:Str):Bool:=(y.length == 1) && decide ((Builtin.Str.partsBetween x (Builtin.Str.occurrences x y 0 x.length (x.length+1)) y.length).length≤sizeLine) && decide ((Txt.split x y).length≤sizeLine) && (Txt.split x y).all wD
noncomputable def qBf (a b:V) (H:Hp):Rs V:=(zO a).elim .bad fun x=>(zO b).elim .bad fun y=>if kR x y=true then okH (.list ((Txt.split x y).map .str)) H else .bad
section
variable {P:Par} {fr:List Nat} {A:Around} {env:Env} {W W':Wd} {σ σ':St} {s s':Shared} {cx:Sx}
theorem kI {α:Type} {o:Option α} {f:α→Rs V} {σ:St} (h:(o.elim .bad f).lift σ≠.bad):∃ a,o=some a∧(f a).lift σ≠.bad:=by
 cases o with
 | none=>exact absurd rfl h
 | some a=>exact ⟨a,rfl,h⟩
theorem zFa (I:Inv P fr W σ.toHp s) (L:Loc P env W σ s.heap) {a b i:V} {c d e:Value} (ha:VR W σ.nxt a c) (hb:VR W σ.nxt b d) (hi:VR W σ.nxt i e) (hne:(qIb a b i σ.toHp).lift σ≠.bad) :
  wpAny P.M A (call (.builtin "str.find") [c,d,e] []) (Post P fr env W σ s ((qIb a b i σ.toHp).lift σ)) NoE s:=by
 unfold qIb at hne ⊢
 obtain ⟨x,e1,hne⟩:=kI hne
 rw [e1]
 obtain ⟨y,e2,hne⟩:=kI hne
 rw [e2]
 obtain ⟨j,e3,hne⟩:=kI hne
 rw [e3]
 obtain rfl:=qQ e1
 obtain rfl:=qQ e2
 obtain rfl:=qS e3
 obtain ⟨_,rfl,_⟩:=ha.inv_str
 obtain ⟨_,rfl,_⟩:=hb.inv_str
 obtain ⟨_,rfl⟩:=hi.inv_int
 exact SC.find3 (jD I L rfl (.int ..))
theorem zHb (I:Inv P fr W σ.toHp s) (L:Loc P env W σ s.heap) {v:V} {c:Value} (hv:VR W σ.nxt v c) (hne:(qTa v σ.toHp).lift σ≠.bad) :
  wpAny P.M A (call (.type "tuple") [c] []) (Post P fr env W σ s ((qTa v σ.toHp).lift σ)) NoE s:=by
 unfold qTa at hne ⊢
 obtain ⟨xs,e,hne⟩:=kI hne
 rw [e]
 obtain ⟨a,items,rfl,hl,hr,hz⟩:=zV I hv e
 refine call_tuple_list hl (fun h' hk=>?_) hz
 have st:Step P fr env W σ s W σ { s with heap:=h' }:=Step.grow I L hk rfl rfl
 exact Post.after st (qDs (items:=items) st.inv st.loc hr hz rfl rfl rfl)
theorem qGu {W:Wd} {n:Nat}:∀ {xs:List V} {cs:List Value} {ts:List Str},VRs W n xs cs→uG xs=some ts→∃ l:List (Str×Tok),cs=strValues l∧l.map (·.1)=ts
 | [],_,ts,h,e=>by
  obtain rfl:=h.inv_nil
  cases e; exact ⟨[],rfl,rfl⟩
 | x::r,_,ts,h,e=>by
  obtain ⟨c,ds,rfl,hx,hr⟩:=h.inv_cons
  obtain ⟨y,e1,e2⟩:=Option.bind_eq_some_iff.mp e
  obtain ⟨ts',e3,rfl⟩:=Option.map_eq_some_iff.mp e2
  obtain rfl:=qQ e1
  obtain ⟨t,rfl,_⟩:=hx.inv_str
  obtain ⟨l,rfl,rfl⟩:=qGu hr e3
  exact ⟨(y,t)::l,rfl,rfl⟩
theorem qDm {W:Wd} {n:Nat}:∀ {l:List (Str×Tok)},(l.map (·.1)).all wD=true→VRs W n ((l.map (·.1)).map .str) (strValues l)
 | [],_=>.nil
 | (x,t)::r,h=>by
  rw [List.map_cons,List.all_cons,Bool.and_eq_true] at h
  have h1:=h.1
  unfold wD at h1
  rw [Bool.and_eq_true,decide_eq_true_eq] at h1
  exact .cons (.str x t h1.1 h1.2) (qDm h.2)
theorem uK (I:Inv P fr W σ.toHp s) (L:Loc P env W σ s.heap) {ts:List Str} {l:List (Str×Tok)} (hl:l.map (·.1)=ts) (hf:ts.all wD=true) (hz:ts.length≤sizeLine) {k:Nat} :
  Post P fr env W σ s ((okH (.list (ts.map .str)) σ.toHp).lift σ) (.ref s.heap.objs.size) { s with heap:=s.heap.push { cls:=.type "list", data:=.seq (strValues l).toArray },toks:=k }:=by
 subst hl
 refine jF (items:=(strValues l).toArray) I L (qDm hf) ?_ rfl rfl rfl
 have h1:(strValues l).length=l.length:=List.length_map ..
 rw [List.size_toArray,h1]
 rw [List.length_map] at hz
 exact hz
theorem qTp (I:Inv P fr W σ.toHp s) (L:Loc P env W σ s.heap) {a b:V} {c d:Value} (ha:VR W σ.nxt a c) (hb:VR W σ.nxt b d) (hne:(qBf a b σ.toHp).lift σ≠.bad) :
  wpAny P.M A (call (.builtin "str.split") [c,d] []) (Post P fr env W σ s ((qBf a b σ.toHp).lift σ)) NoE s:=by
 unfold qBf at hne ⊢
 obtain ⟨x,e1,hne⟩:=kI hne
 rw [e1]
 obtain ⟨y,e2,hne⟩:=kI hne
 rw [e2]
 obtain rfl:=qQ e1
 obtain rfl:=qQ e2
 obtain ⟨t,rfl,hx,_⟩:=ha.inv_str
 obtain ⟨u,rfl,_⟩:=hb.inv_str
 by_cases hq:kR x y=true
 ·show wpAny _ _ _ (Post P fr env W σ s ((if _ then _ else _:Rs V).lift σ)) _ _
  rw [if_pos hq]
  unfold kR at hq
  simp only [Bool.and_eq_true,decide_eq_true_eq,beq_iff_eq] at hq
  obtain ⟨⟨⟨q1,q2⟩,q3⟩,q4⟩:=hq
  have hy:(y.length == 0)=false:=by rw [q1]; rfl
  cases h1:(decide (x.length < y.length) || decide (Builtin.Str.strKind x < Builtin.Str.strKind y)) with
  | true=>exact call_meets PySem.F.slot_str_split (typeIs_str _ _ _) PySem.F.entry_str_split (PySem.F.args_str_split_2 _ _) (meets_str_split_cannot_occur x y t u h1) (uK (l:=[(x,t)]) I L (if_pos h1).symm q4 q3)
  | false =>
   cases hf:(Builtin.Str.occurrences x y 0 x.length (x.length+1)).isEmpty with
   | true=>exact call_meets PySem.F.slot_str_split (typeIs_str _ _ _) PySem.F.entry_str_split (PySem.F.args_str_split_2 _ _) (meets_str_split_not_found x y t u h1 hy hf) (uK (l:=[(x,t)]) I L ((if_neg (ne_true_of_eq_false h1)).trans (if_pos hf)).symm q4 q3)
   | false =>
    refine call_meets PySem.F.slot_str_split (typeIs_str _ _ _) PySem.F.entry_str_split (PySem.F.args_str_split_2 _ _) (meets_str_split_sep x y t u h1 hy hf hx q2) ?_
    show wants _ NoE _ { s with toks:=_,heap:=s.heap.push { cls:=.type "list", data:=.seq (strsFrom s.toks (Builtin.Str.partsBetween x (Builtin.Str.occurrences x y 0 x.length (x.length+1)) y.length)).toArray } }
    rw [strsFrom_eq]
    exact uK (l:=numbered s.toks _) I L ((numbered_texts _ _).trans ((if_neg (ne_true_of_eq_false h1)).trans (if_neg (ne_true_of_eq_false hf))).symm) q4 q3
 ·exact absurd (congrArg (fun r:Rs V=>r.lift σ) (if_neg hq)) hne
end
noncomputable def yW (sep v:V) (H:Hp):Rs V:=(zO sep).elim .bad fun sp=>((qM H v).bind uG).elim .bad fun ts =>
 if (JoinOk sp ts && wD (Txt.join sp ts))=true then okH (.str (Txt.join sp ts)) H else .bad
section
variable {P:Par} {fr:List Nat} {A:Around} {env:Env} {W W':Wd} {σ σ':St} {s s':Shared} {cx:Sx}
theorem zEj (I:Inv P fr W σ.toHp s) (L:Loc P env W σ s.heap) {sp v:V} {c d:Value} (hs:VR W σ.nxt sp c) (hv:VR W σ.nxt v d) (hne:(yW sp v σ.toHp).lift σ≠.bad) :
  wpAny P.M A (call (.builtin "str.join") [c,d] []) (Post P fr env W σ s ((yW sp v σ.toHp).lift σ)) NoE s:=by
 unfold yW at hne ⊢
 obtain ⟨sep,e1,hne⟩:=kI hne
 rw [e1]
 obtain ⟨ts,e2,hne⟩:=kI hne
 rw [e2]
 obtain rfl:=qQ e1
 obtain ⟨t,rfl,_⟩:=hs.inv_str
 obtain ⟨xs,e3,e4⟩:=Option.bind_eq_some_iff.mp e2
 obtain ⟨a,items,rfl,hl,hr,hz⟩:=zV I hv e3
 obtain ⟨l,e5,rfl⟩:=qGu hr e4
 have hl':s.heap.IsList a (strValues l).toArray:=by rw [← e5,Array.toArray_toList]; exact hl
 by_cases hq:(JoinOk sep (l.map (·.1)) && wD (Txt.join sep (l.map (·.1))))=true
 ·show wpAny _ _ _ (Post P fr env W σ s ((if _ then _ else _:Rs V).lift σ)) _ _
  rw [if_pos hq]
  rw [Bool.and_eq_true] at hq
  obtain ⟨q1,q2⟩:=hq
  unfold wD at q2
  rw [Bool.and_eq_true,decide_eq_true_eq] at q2
  refine call_meets PySem.F.slot_str_join (typeIs_str _ _ _) PySem.F.entry_str_join (PySem.F.args_str_join_2 _ _) (meets_str_join_list sep t a l (by have:=q1; unfold JoinOk at this; simpa using this)) ⟨hl',?_⟩
  exact post_join l ⟨q2.1,fun t' k=>jD I L rfl (.str _ _ q2.1 q2.2)⟩
 ·exact absurd (congrArg (fun r:Rs V=>r.lift σ) (if_neg hq)) hne
end
theorem slot_md_get:Slot "method_descriptor" "__get__" "method_descriptor.__get__" :=
 .of (owner:="method_descriptor") (n:="__get__") (by rw [typeLookup_type,builtinLookup_eq_fast]; kernel_rfl) (by decide +kernel) (by decide +kernel) (by decide +kernel)
  (by first | exact .inl (by decide +kernel) | exact .inr (by decide +kernel)) (by rw [isSubtype_type]; kernel_rfl)
theorem qFt:entryFor table "method_descriptor.__get__" = some Builtin.«method_descriptor.__get__»:=entryFor_of_tree (by kernel_rfl)
theorem qIt (a b c:Value):argsOk "method_descriptor.__get__" ⟨[a,b,c],[]⟩:=by unfold argsOk; kernel_rfl
theorem qQs:typeLookup (.type "method_descriptor") "__set__" = pure none:=by rw [typeLookup_type,builtinLookup_eq_fast]; kernel_rfl
theorem qFd:typeLookup (.type "method_descriptor") "__delete__" = pure none:=by rw [typeLookup_type,builtinLookup_eq_fast]; kernel_rfl
theorem qGn:Manifest.toldItsClass.contains "list.append" = false:=by decide +kernel
section
variable {prog:Program} {w:World} {A:Around} {E:Value→Shared→Prop} {h:Heap} {g:Array GenState} {d:Drawn} {t:Nat} {os:OsState} {a:Addr} {o:Obj}
theorem qWf {c:Bool} {α:Type} {x y:Sem α} {Q:α→Shared→Prop} {s:Shared} {M:Model} (hc:c=false) (h:wpAny M A y Q E s):wpAny M A (if c=true then x else y) Q E s:=by
 subst hc; exact h
theorem qUl {Q:Fin→Shared→Prop} (hx:h.get? a=some o) (hc:o.cls=.type "list") (hQ:Q (.done (.ret (.ref h.objs.size))) ⟨h.push (xC a),g,d,t,os⟩) :
  wpAny (model prog w) A (Builtin.«method_descriptor.__get__» ⟨[.builtin "list.append", .ref a,.type "list"],[]⟩) Q E ⟨h,g,d,t,os⟩:=by
 have hT:(⟨h,g,d,t,os⟩:Shared).TypeIs (.ref a) "list" := ⟨_,hx,hc⟩
 have hs:isSubtype (.type "list") (.type "list")=pure true:=by rw [isSubtype_type]; kernel_rfl
 unfold Builtin.«method_descriptor.__get__»
 refine wpAny_bind (wpAny_of_eq (a:=(.builtin "list.append", some (.ref a),some (.type "list"))) (by first | rfl | kernel_rfl) ?_)
 dsimp only
 refine qWf qGn ?_
 refine wpAny_bind ?_
 wp_delta
 refine wpAny_bind ?_
 refine wpAny_of_eq (a:=(("append" : Str),Value.type "list")) (by first | rfl | kernel_rfl) ?_
 dsimp only
 refine wpAny_bind (wpAny_isInstance hT hs ?_)
 refine qWf rfl ?_
 refine wpAny_pure ?_
 refine wpAny_bind ?_
 unfold newFields
 refine wpAny_newObj_type ?_ (by show (2:Nat)≤sizeLine+2; decide)
 exact wpAny_pure hQ
theorem qQq {R:Result→Shared→Prop} (hx:h.get? a=some o) (hc:o.cls=.type "list") (hQ:R (.ok (.ret (.ref h.objs.size))) ⟨h.push (xC a),g,d,t,os⟩) :
  codeAny (model prog w) A (.call (.builtin "method_descriptor.__get__") ⟨[.builtin "list.append", .ref a,.type "list"],[]⟩) R ⟨h,g,d,t,os⟩:=by
 have hT5:(⟨h,g,d,t,os⟩:Shared).TypeIs (.builtin "list.append") "method_descriptor" := F.type_list_append
 exact codeAny_call_builtin slot_md_get.plain qFt (slot_md_get.check _ _ _ _ _ _ _ _ hT5 (qIt _ _ _) (qUl hx hc hQ))
variable {xs:Array Value} {k:Nat}
theorem qGa {tk:Tok} {Q:Fin→Shared→Prop} (hx:h.get? a=some (W.listOf xs k)) (hQ:Q (.done (.ret (.ref h.objs.size))) ⟨h.push (xC a),g,d,t,os⟩) :
  wpAny (model prog w) A (Builtin.«object.__getattribute__» ⟨[.ref a,.str "append" tk],[]⟩) Q E ⟨h,g,d,t,os⟩:=by
 unfold W.listOf at hx
 have hT:(⟨h,g,d,t,os⟩:Shared).TypeIs (.ref a) "list" := ⟨_,hx,rfl⟩
 have hT5:(⟨h,g,d,t,os⟩:Shared).TypeIs (.builtin "list.append") "method_descriptor" := F.type_list_append
 have f4:=F.slot_list_append.lookup
 have f5:=F.type_list_append
 have f6:=slot_md_get.lookup
 have f7:=qQs
 have f8:=qFd
 repeat (any_goals (first | assumption | wp_step))
 refine qQq hx rfl ?_
 repeat (any_goals (first | assumption | wp_step))
theorem qIu {tk:Tok} {R:Result→Shared→Prop} (hx:h.get? a=some (W.listOf xs k)) (hQ:R (.ok (.ret (.ref h.objs.size))) ⟨h.push (xC a),g,d,t,os⟩) :
  codeAny (model prog w) A (.call (.builtin "list.__getattribute__") ⟨[.ref a,.str "append" tk],[]⟩) R ⟨h,g,d,t,os⟩ :=
 codeAny_call_builtin F.slot_list_getattribute.plain F.entry_list_ga (F.slot_list_getattribute.check _ _ _ _ _ _ _ _ (show (⟨h,g,d,t,os⟩:Shared).TypeIs (.ref a) "list" from ⟨_,hx,rfl⟩) (F.args_list_getattribute_2 _ _) (qGa hx hQ))
theorem qLx {Q:Value→Shared→Prop} (hx:h.get? a=some (W.listOf xs k)) (hQ:Q (.ref h.objs.size) ⟨h.push (xC a),g,d,t+1,os⟩):wpAny (model prog w) A (getAttr (.ref a) "append" true) Q E ⟨h,g,d,t,os⟩:=by
 have hT:∀ tk',(⟨h,g,d,tk',os⟩:Shared).TypeIs (.ref a) "list" := fun _=>⟨_,hx,rfl⟩
 have f2:=F.slot_list_getattribute.lookup
 have f3:=F.slot_list_getattribute.bind (.ref a)
 unfold getAttr getAttrBy
 repeat (any_goals (first | assumption | exact hT _ | wp_step))
 refine qIu hx ?_
 repeat (any_goals (first | assumption | wp_step))
end
noncomputable def zMp:Manifest.Signature:=(Manifest.signature? "list.append").getD ⟨.keywords,"", "", .self,[]⟩
theorem qJv:Manifest.signature? "list.append" = some zMp:=by kernel_rfl
theorem qHr:builtinKind "list.append" = some .method:=by kernel_rfl
theorem qEx {as:Args}:(Code.builtin "list.append" as).quiet=true:=Code.quiet_builtin _ (by decide +kernel)
section
variable {prog:Program} {w:World} {A:Around} {E:Value→Shared→Prop} {s:Shared} {M:Model} {a b:Addr} {x:Value} {xs:Array Value} {k:Nat}
theorem qRz {Q:Unit→Shared→Prop} (hx:s.heap.get? a=some (W.listOf xs k)) (hQ:Q () s):wpAny M A (checkBoundCall "list.append" ⟨[.ref a,x],[]⟩) Q E s:=by
 have hT:s.TypeIs (.ref a) "list" := ⟨_,hx,rfl⟩
 unfold checkBoundCall
 rw [qJv,qHr]
 dsimp only
 rw [if_neg (by decide)]
 refine wpAny_bind (wpAny_isInstance (b:=false) hT (by rw [isSubtype_type]; kernel_rfl) ?_)
 rw [if_neg (by decide +kernel)]
 refine wpAny_bind (wpAny_bind ?_)
 unfold loadHead
 refine wpAny_load hx (wpAny_pure ?_)
 rw [if_neg (fun q=>by cases q)]
 refine wpAny_bind (wpAny_typeOf hT ?_)
 exact wpAny_of_eq (a:=()) (by first | rfl | kernel_rfl) hQ
theorem qYn {Q:Value→Shared→Prop} (hb:s.heap.get? b=some (xC a)) (hx:s.heap.get? a=some (W.listOf xs k)) (hz:xs.size+1≤sizeLine)
  (hQ:Q .none { s with heap:=s.heap.update a (Obj.mapSeq fun l=>l.push x) }):wpAny (model prog w) A (call (.ref b) [x] []) Q E s:=by
 refine wpAny_call (codeAny_of_tree ?_)
 show wpAny _ A.in1 (callAny (.ref b) ⟨[x],[]⟩) _ _ s
 refine wpAny_bind (wpAny_load hb ?_)
 show wpAny _ _ (if (Value.type "builtin_function_or_method" == Value.type "method" || Value.type "builtin_function_or_method" == Value.type "builtin_function_or_method" || Value.type "builtin_function_or_method" == Value.type "method-wrapper")=true then _ else _) _ _ _
 rw [if_pos (by decide)]
 show wpAny _ _ (if (Value.type "builtin_function_or_method" != Value.type "method")=true then _ else _) _ _ _
 rw [if_pos (by decide)]
 refine wpAny_bind (qRz hx ?_)
 refine wpAny_bind (wpAny_pure (wpAny_pure ?_))
 exact ⟨qEx,codeAny_builtin PySem.F.entry_list_append (PySem.list_append _ xs k x (by lia) prog w A (wants Q E) s ⟨hx,hQ⟩)⟩
theorem qQv {M:Model} (hb:s.heap.get? b=some (xC a)):vB M A (.ref b) s:=fun E Q hq=>by
 unfold keeperOf
 refine wpAny_bind (wpAny_load hb ?_)
 exact wpAny_pure (hq _)
end
noncomputable def qYp (v:V) (H:Hp):Rs V:=match v with
 | .ref k=>(match H.obj k with
  | some (.list xs)=>okH (.bnd k) H
  | _=>.bad)
 | _=>.bad
section
variable {P:Par} {fr:List Nat} {A:Around} {env:Env} {W W':Wd} {σ σ':St} {s s':Shared} {cx:Sx}
theorem VR.inv_bnd {W:Wd} {n k:Nat} {c:Value} (h:VR W n (.bnd k) c):∃ b,c=.ref b∧k < n∧W.fz b=some (xC (W.ρ k)):=by cases h; exact ⟨_,rfl,‹_›,‹_›⟩
theorem zKu (I:Inv P fr W σ.toHp s) (L:Loc P env W σ s.heap) (hL:env.locals∈fr) {k:Nat} {x:V} {c d:Value} (hv:VR W σ.nxt (.bnd k) c) (hx:VR W σ.nxt x d) (hne:(zY (.ref k) x σ.toHp).lift σ≠.bad) :
  wpAny P.M A (call c [d] []) (Post P fr env W σ s ((zY (.ref k) x σ.toHp).lift σ)) NoE s:=by
 obtain ⟨b,rfl,hk,hb⟩:=hv.inv_bnd
 unfold zY at hne ⊢
 dsimp only at hne ⊢
 split at hne
 ·rename_i xs ho
  by_cases hz:xs.length+1≤sizeLine
  ·rw [if_pos hz]
   obtain ⟨_,ob,hg,hr⟩:=I.obj _ _ ho
   obtain ⟨items,e,rfl,r,z⟩:=hr.inv_list
   have hlen:=r.length
   rw [Array.length_toList] at hlen
   refine qYn (I.frz _ _ hb).1 hg (by lia) ?_
   have hu:=IsL.update (n:=e) hg (fun xs=>xs.push d)
   refine ⟨_,σ.put k (.list (xs++[x])),W,rfl,Step.put I L hk hL (.list (xs++[x])) (.list (e:=_) ?_ ?_) (fun b o hb e=>((Heap.SameBut.update ..).2 b hb).trans e) hu rfl rfl,.none⟩
   ·rw [Array.toList_push]; exact r.append (.cons hx .nil)
   ·rw [Array.size_push]; lia
  ·rw [if_neg hz] at hne; exact absurd rfl hne
 ·exact absurd rfl hne
theorem zFu (I:Inv P fr W σ.toHp s) (L:Loc P env W σ s.heap) {v:V} {c:Value} (hv:VR W σ.nxt v c) (hne:(qYp v σ.toHp).lift σ≠.bad) :
  wpAny P.M A (getAttr c "append" true) (Post P fr env W σ s ((qYp v σ.toHp).lift σ)) NoE s:=by
 unfold qYp at hne ⊢
 split at hne
 ·rename_i k
  obtain ⟨rfl,hk⟩:=hv.inv_ref
  split at hne
  ·rename_i xs ho
   obtain ⟨_,ob,hg,hr⟩:=I.obj _ _ ho
   obtain ⟨items,e,rfl,r,z⟩:=hr.inv_list
   obtain ⟨h,g,d,t,os⟩:=s
   refine qLx hg ?_
   have st:=Step.freeze (s':={ heap:=h.push (xC (W.ρ k)),gens:=g,drawn:=d,toks:=t+1,os:=os }) I L (xC (W.ρ k)) rfl rfl rfl rfl
   exact ⟨_,_,_,rfl,st,.bnd hk (by show (if _=_ then _ else _)=_; rw [if_pos rfl]; rfl)⟩
  ·exact absurd rfl hne
 ·exact absurd rfl hne
end
end Mine.Lake
end
noncomputable section
namespace Mine.Lake
open PySem PySem.W PyProof.Rows Mine.Lake.Re
noncomputable def qDw:List V→Option (List Int)
 | []=>some []
 | [a]=>(zW a).map fun i=>[i]
 | [a,b]=>(zW a).bind fun i=>(zW b).map fun l=>[i,l]
 | _=>none
noncomputable def wP (is:List Int):Bool:=decide (-(2 ^ 63)≤qZ is) && decide (qZ is < 2 ^ 63) && decide (-(2 ^ 63)≤zC is) && decide (zC is < 2 ^ 63)
noncomputable def mtV:Option (Nat×Nat)→V
 | some (p,e)=>.mt p e
 | none=>.none
noncomputable abbrev zGj:=PySem.Str→Nat→Nat→Option (Option (Nat×Nat))
noncomputable def wC (R:zGj) (x:PySem.Str) (is:List Int) (H:Hp):Rs V :=
 if wP is=true then (R x (min (qZ is).toNat x.cps.size) (min (zC is).toNat x.cps.size)).elim .bad fun r=>okH (mtV r) H else .bad
noncomputable def qCc (R:zGj) (args:List V) (H:Hp):Rs V:=match args with
 | a::r=>(zO a).elim .bad fun x=>(qDw r).elim .bad fun is=>wC R x is H
 | _=>.bad
noncomputable def vO (code:Array Nat) (args:List V) (H:Hp):Rs V:=qCc (fun x=>jG code x.cps) args H
noncomputable def vD (args:List V) (H:Hp):Rs V:=qCc (fun x=>qBh code1 x.cps) args H
noncomputable def qXl (v:V) (H:Hp):Rs V:=match v with
 | .mt _ e=>okH (.int e) H
 | _=>.bad
noncomputable def jP (x y:PySem.Str) (lo hi:Nat):Int:=match Builtin.Str.occurrences x y lo hi 1 with | k::_=>(k:Int) | []=>-1
noncomputable def vM (f:PySem.Str→PySem.Str→Nat→Nat→Int) (a b c d:V) (H:Hp):Rs V :=
 (zO a).elim .bad fun x=>(zO b).elim .bad fun y=>(zW c).elim .bad fun i=>(zW d).elim .bad fun j=>okH (.int (f x y (xD x.length i) (min (xD x.length j) x.length))) H
theorem qOl {x y:PySem.Str} {t u v v':Tok} {i j:Int}:Gives (Builtin.«str.find» ⟨[.str x t,.str y u,.int i v,.int j v'],[]⟩) (.int (jP x y (xD x.length i) (min (xD x.length j) x.length))):=by
 show Gives (match Builtin.Str.occurrences x y (xD x.length i) (min (xD x.length j) x.length) 1 with | k::_=>retInt k | []=>(do rule "str.find.not-found"; retInt (-1))) _
 unfold jP
 cases Builtin.Str.occurrences x y (xD x.length i) (min (xD x.length j) x.length) 1 with
 | nil=>exact .rule (.of_eq rfl)
 | cons k _=>exact .of_eq rfl
section
variable {P:Par} {fr:List Nat} {A:Around} {env:Env} {W W':Wd} {σ σ':St} {s s':Shared}
theorem qFf {W:Wd} {n:Nat} {v:V} {i:Int} {c:Value} (h:VR W n v c) (e:zW v=some i):∃ t,c=.int i t:=by
 rw [qS e] at h; exact h.inv_int
theorem qQy {W:Wd} {n:Nat} {args:List V} {cs:List Value} {is:List Int} (h:VRs W n args cs) (e:qDw args=some is):IntArgs is cs:=by
 cases h with
 | nil=>cases e; exact .nil
 | cons a r=>cases r with
  | nil =>
   obtain ⟨i,h1,rfl⟩:=Option.map_eq_some_iff.mp (show Option.map _ _=_ from e)
   obtain ⟨t,rfl⟩:=qFf a h1
   exact .one _ _
  | cons b r=>cases r with
   | nil =>
    obtain ⟨i,h1,h2⟩:=Option.bind_eq_some_iff.mp (show Option.bind _ _=_ from e)
    obtain ⟨l,h3,rfl⟩:=Option.map_eq_some_iff.mp h2
    obtain ⟨t,rfl⟩:=qFf a h1
    obtain ⟨u,rfl⟩:=qFf b h3
    exact .two _ _ _ _
   | cons _ _=>cases e
theorem qMy (I:Inv P fr W σ.toHp s) {p e:Nat} {c:Value} (h:VR W σ.nxt (.mt p e) c):∃ a o,c=.ref a∧MatchAt s.heap a p e∧s.heap.get? a=some o∧o.cls=.type "re.Match" ∧ o.dict=none:=by
 cases h with
 | mt h1 h2 h3 h4 h5 h6 h7 h8=>exact ⟨_,_,rfl,⟨_,_,_,_,_,_,_,_,(I.frz _ _ h1).1,h2,h3,h4,(I.frz _ _ h5).1,h6,h7⟩,(I.frz _ _ h1).1,h2,h8⟩
theorem qAs {r:Rs V} (h:r.lift σ≠.bad):r≠.bad:=fun q=>h (by rw [q]; rfl)
theorem found_ok {R:zGj} {b pt:Addr} (I:Inv P fr W σ.toHp s) (L:Loc P env W σ s.heap) {args:List V} {cargs:List Value} (ha:VRs W σ.nxt args cargs) (hne:(qCc R args σ.toHp).lift σ≠.bad)
  (hcall:∀ {x:PySem.Str} {t:Tok} {is:List Int} {rest:List Value},IntArgs is rest→-(2 ^ 63)≤qZ is→qZ is < 2 ^ 63→-(2 ^ 63)≤zC is→zC is < 2 ^ 63→∀ {r:Option (Nat×Nat)},R x (min (qZ is).toNat x.cps.size) (min (zC is).toNat x.cps.size)=some r→∀ {Q:Value→Shared→Prop},
   (∀ p e,r=some (p,e)→Q (.ref (s.heap.objs.size+1)) { s with heap:=(s.heap.push (kS p e)).push (xV x t pt s.heap.objs.size (min (qZ is).toNat x.cps.size) (min (zC is).toNat x.cps.size)) })→(r=none→Q .none s)→wpAny P.M A (call (.ref b) (.str x t::rest)) Q NoE s) :
  wpAny P.M A (call (.ref b) cargs []) (Post P fr env W σ s ((qCc R args σ.toHp).lift σ)) NoE s:=by
 have hne':=qAs hne
 cases args with
 | nil=>exact absurd rfl hne
 | cons v r =>
 obtain ⟨c,cs,rfl,h1,h2⟩:=ha.inv_cons
 obtain ⟨x,ex⟩:=xJ (show (zO v).elim Rs.bad _≠.bad from hne')
 obtain rfl:=qQ ex.1
 obtain ⟨is,hi⟩:=xJ (show (qDw r).elim Rs.bad _≠.bad from hne')
 have hB:qCc R (.str x::r) σ.toHp=wC R x is σ.toHp:=by
  show (qDw r).elim Rs.bad _=_
  rw [hi.1]; rfl
 rw [hB] at hne hne' ⊢
 obtain ⟨t,rfl,hl,hs⟩:=h1.inv_str
 have hia:=qQy h2 hi.1
 unfold wC at hne hne' ⊢
 by_cases hr:wP is=true
 ·rw [if_pos hr] at hne' ⊢
  obtain ⟨q,hq⟩:=xJ hne'
  rw [hq.1]
  unfold wP at hr
  rw [Bool.and_eq_true,Bool.and_eq_true,Bool.and_eq_true] at hr
  obtain ⟨⟨⟨r1,r2⟩,r3⟩,r4⟩:=hr
  refine hcall hia (of_decide_eq_true r1) (of_decide_eq_true r2) (of_decide_eq_true r3) (of_decide_eq_true r4) hq.1 (fun p e he=>?_) fun he=>?_
  ·subst he
   have st₁:=Step.freeze (s':={ s with heap:=s.heap.push (kS p e) }) I L (kS p e) rfl rfl rfl rfl
   have hz:(s.heap.push (kS p e)).objs.size=s.heap.objs.size+1:=Heap.size_push ..
   have st₂:=Step.freeze (s':={ s with heap:=(s.heap.push (kS p e)).push (xV x t pt s.heap.objs.size (min (qZ is).toNat x.cps.size) (min (zC is).toNat x.cps.size)) }) st₁.inv st₁.loc (xV x t pt s.heap.objs.size (min (qZ is).toNat x.cps.size) (min (zC is).toNat x.cps.size)) rfl rfl rfl rfl
   refine ⟨_,_,_,rfl,st₁.trans st₂,?_⟩
   rw [← hz]
   refine .mt (o:=xV x t pt s.heap.objs.size (min (qZ is).toNat x.cps.size) (min (zC is).toNat x.cps.size)) (ot:=kS p e) (by show (if _=_ then _ else _)=_; rw [if_pos rfl]) rfl rfl rfl (st₂.nx.wle.fz _ _ (by show (if _=_ then _ else _)=_; rw [if_pos rfl])) rfl rfl rfl
  ·subst he
   exact ⟨_,_,W,rfl,Step.refl I L,.none⟩
 ·exact absurd (if_neg hr) hne'
theorem PatAt.keep {pt:Addr} {code:Array Nat} (hp:PatAt P.B pt code) (I:Inv P fr W σ.toHp s):PatAt s.heap pt code :=
 let ⟨op,fs,ct,p1,p2,p3,p4,p5,p6,oc,items,e,p7,p8,p9⟩:=hp.at_
 ⟨op,fs,ct,I.keep _ _ p1,p2,p3,p4,p5,p6,oc,items,e,I.keep _ _ p7,p8,p9⟩
theorem qVu {code:Array Nat} {b pt:Addr} (hb:P.B.get? b=some (boundObj "re.Pattern.match" pt)) (hp:PatAt P.B pt code) (I:Inv P fr W σ.toHp s) (L:Loc P env W σ s.heap) {args:List V} {cargs:List Value} (ha:VRs W σ.nxt args cargs) (hne:(vO code args σ.toHp).lift σ≠.bad) :
  wpAny P.M A (call (.ref b) cargs []) (Post P fr env W σ s ((vO code args σ.toHp).lift σ)) NoE s :=
 found_ok (pt:=pt) I L ha hne fun h r1 r2 r3 r4 _ hr _ hs hn=>qLq (I.keep _ _ hb) (PatAt.keep hp I) h r1 r2 r3 r4 hr hs hn
theorem qPs {b pt:Addr} (hb:P.B.get? b=some (boundObj "re.Pattern.search" pt)) (hp:PatAt P.B pt code1) (I:Inv P fr W σ.toHp s) (L:Loc P env W σ s.heap) {args:List V} {cargs:List Value} (ha:VRs W σ.nxt args cargs) (hne:(vD args σ.toHp).lift σ≠.bad) :
  wpAny P.M A (call (.ref b) cargs []) (Post P fr env W σ s ((vD args σ.toHp).lift σ)) NoE s :=
 found_ok (pt:=pt) I L ha hne fun h r1 r2 r3 r4 _ hr _ hs hn=>qIo (I.keep _ _ hb) (PatAt.keep hp I) h r1 r2 r3 r4 hr hs hn
theorem zKo (I:Inv P fr W σ.toHp s) (L:Loc P env W σ s.heap) {v:V} {c:Value} (hv:VR W σ.nxt v c) (hne:(qXl v σ.toHp).lift σ≠.bad) :
  wpAny P.M A (call (.builtin "re.Match.end") [c] []) (Post P fr env W σ s ((qXl v σ.toHp).lift σ)) NoE s:=by
 unfold qXl at hne ⊢
 split at hne
 ·obtain ⟨a,o,rfl,X,_⟩:=qMy I hv
  exact qYk X (jD I L rfl (.int _ _))
 ·exact absurd rfl hne
theorem qDq {f:PySem.Str→PySem.Str→Nat→Nat→Int} {a b c d:V} {H:Hp} (hne:vM f a b c d H≠.bad):∃ x y i j,a=.str x∧b=.str y∧c=.int i∧d=.int j∧vM f a b c d H=okH (.int (f x y (xD x.length i) (min (xD x.length j) x.length))) H:=by
 obtain ⟨x,e1,_⟩:=xJ (show (zO a).elim Rs.bad _≠.bad from hne)
 obtain rfl:=qQ e1
 obtain ⟨y,e2,_⟩:=xJ (show (zO b).elim Rs.bad _≠.bad from hne)
 obtain rfl:=qQ e2
 obtain ⟨i,e3,_⟩:=xJ (show (zW c).elim Rs.bad _≠.bad from hne)
 obtain rfl:=qS e3
 obtain ⟨j,e4,_⟩:=xJ (show (zW d).elim Rs.bad _≠.bad from hne)
 obtain rfl:=qS e4
 exact ⟨x,y,i,j,rfl,rfl,rfl,rfl,rfl⟩
theorem VRs.inv4 {W:Wd} {n:Nat} {x y z u:V} {cs:List Value} (h:VRs W n [x,y,z,u] cs):∃ c d e f,cs=[c,d,e,f]∧VR W n x c∧VR W n y d∧VR W n z e∧VR W n u f:=by
 obtain ⟨c,ds,rfl,a,b⟩:=h.inv_cons
 obtain ⟨d,es,rfl,b',c'⟩:=b.inv_cons
 obtain ⟨e,f,rfl,x',y'⟩:=c'.inv2
 exact ⟨c,d,e,f,rfl,a,b',x',y'⟩
theorem qUp (I:Inv P fr W σ.toHp s) (L:Loc P env W σ s.heap) {a b c d:V} {cargs:List Value} (ha:VRs W σ.nxt [a,b,c,d] cargs) (hne:(vM jC a b c d σ.toHp).lift σ≠.bad) :
  wpAny P.M A (call (.builtin "str.rfind") cargs []) (Post P fr env W σ s ((vM jC a b c d σ.toHp).lift σ)) NoE s:=by
 obtain ⟨ca,cb,cc,cd,rfl,h1,h2,h3,h4⟩:=ha.inv4
 obtain ⟨x,y,i,j,rfl,rfl,rfl,rfl,e⟩:=qDq (qAs hne)
 rw [e]
 obtain ⟨_,rfl,_⟩:=h1.inv_str
 obtain ⟨_,rfl,_⟩:=h2.inv_str
 obtain ⟨_,rfl⟩:=h3.inv_int
 obtain ⟨_,rfl⟩:=h4.inv_int
 exact qLp (jD I L rfl (.int _ _))
theorem qWz (I:Inv P fr W σ.toHp s) (L:Loc P env W σ s.heap) {a b c d:V} {cargs:List Value} (ha:VRs W σ.nxt [a,b,c,d] cargs) (hne:(vM jP a b c d σ.toHp).lift σ≠.bad) :
  wpAny P.M A (call (.builtin "str.find") cargs []) (Post P fr env W σ s ((vM jP a b c d σ.toHp).lift σ)) NoE s:=by
 obtain ⟨ca,cb,cc,cd,rfl,h1,h2,h3,h4⟩:=ha.inv4
 obtain ⟨x,y,i,j,rfl,rfl,rfl,rfl,e⟩:=qDq (qAs hne)
 rw [e]
 obtain ⟨_,rfl,_⟩:=h1.inv_str
 obtain ⟨_,rfl,_⟩:=h2.inv_str
 obtain ⟨_,rfl⟩:=h3.inv_int
 obtain ⟨_,rfl⟩:=h4.inv_int
 exact call_gives PySem.F.slot_str_find (typeIs_str s x _) PySem.F.entry_str_find (PySem.F.args_str_find_4 _ _ _ _) qOl (jD I L rfl (.int _ _))
end
noncomputable def qEt (v:V) (H:Hp):Rs V:=match v with
 | .mt p _=>okH (.int p) H
 | _=>.bad
noncomputable def qMm (v:V) (H:Hp):Rs V:=match v with
 | .mt p e=>okH (.tup [.int p,.int e]) H
 | _=>.bad
noncomputable def jY:List V→Option (List Int)
 | []=>some []
 | v::r=>(zW v).bind fun i=>(jY r).map fun l=>i::l
noncomputable def qZv (v:V) (H:Hp):Rs V:=((qM H v).bind jY).elim .bad fun ns=>okH (.int ns.sum) H
section
variable {P:Par} {fr:List Nat} {A:Around} {env:Env} {W W':Wd} {σ σ':St} {s s':Shared}
theorem qOv (I:Inv P fr W σ.toHp s) (L:Loc P env W σ s.heap) {v:V} {c:Value} (hv:VR W σ.nxt v c) (hne:(qEt v σ.toHp).lift σ≠.bad) :
  wpAny P.M A (call (.builtin "re.Match.start") [c] []) (Post P fr env W σ s ((qEt v σ.toHp).lift σ)) NoE s:=by
 unfold qEt at hne ⊢
 split at hne
 ·obtain ⟨a,o,rfl,X,_⟩:=qMy I hv
  exact qLo X (jD I L rfl (.int _ _))
 ·exact absurd rfl hne
theorem qZy (I:Inv P fr W σ.toHp s) (L:Loc P env W σ s.heap) {v:V} {c:Value} (hv:VR W σ.nxt v c) (hne:(qMm v σ.toHp).lift σ≠.bad) :
  wpAny P.M A (call (.builtin "re.Match.span") [c] []) (Post P fr env W σ s ((qMm v σ.toHp).lift σ)) NoE s:=by
 unfold qMm at hne ⊢
 split at hne
 ·rename_i p e
  obtain ⟨a,o,rfl,X,_⟩:=qMy I hv
  refine qSb X ?_
  have st:=Step.freeze (s':={ s with heap:=s.heap.push { cls:=.type "tuple", data:=.seq #[.int p s.toks,.int e (s.toks+1)] },toks:=s.toks+1+1 }) I L { cls:=.type "tuple", data:=.seq #[.int p s.toks,.int e (s.toks+1)] } rfl rfl rfl rfl
  exact ⟨_,_,_,rfl,st,.tup (by show (if _=_ then _ else _)=_; rw [if_pos rfl]) rfl rfl (by show (2:Nat)≤sizeLine; decide) (.cons (.int _ _) (.cons (.int _ _) .nil))⟩
 ·exact absurd rfl hne
theorem qHu {W:Wd} {n:Nat}:∀ {xs:List V} {cs:List Value} {ts:List Int},VRs W n xs cs→jY xs=some ts→IntsAre cs ts
 | [],_,ts,h,e=>by rw [h.inv_nil]; cases e; exact .nil
 | x::r,_,ts,h,e=>by
  obtain ⟨c,ds,rfl,h1,h2⟩:=h.inv_cons
  obtain ⟨i,e1,e2⟩:=Option.bind_eq_some_iff.mp (show Option.bind _ _=some ts from e)
  obtain ⟨l,e3,rfl⟩:=Option.map_eq_some_iff.mp e2
  obtain ⟨t,rfl⟩:=qFf h1 e1
  exact .cons _ _ (qHu h2 e3)
theorem zHg (hh:A.handled=none) (I:Inv P fr W σ.toHp s) (L:Loc P env W σ s.heap) {v:V} {c:Value} (hv:VR W σ.nxt v c) (hne:(qZv v σ.toHp).lift σ≠.bad) :
  wpAny P.M A (call (.builtin "sum") [c] []) (Post P fr env W σ s ((qZv v σ.toHp).lift σ)) NoE s:=by
 have hne':((qM σ.toHp v).bind jY).elim Rs.bad (fun ns=>okH (.int ns.sum) σ.toHp)≠.bad:=qAs hne
 obtain ⟨ns,e⟩:=xE hne'
 obtain ⟨xs,e1,e2⟩:=Option.bind_eq_some_iff.mp e
 obtain ⟨a,items,rfl,hl,hr,hz⟩:=zV I hv e1
 have hi:=qHu hr e2
 have hB:qZv v σ.toHp=okH (.int ns.sum) σ.toHp:=by
  show ((qM σ.toHp v).bind jY).elim Rs.bad _=_
  rw [e]; rfl
 have hall:=hi.allInts
 rw [Array.toArray_toList] at hall
 obtain ⟨xs',rfl⟩:=hall.items
 refine sum_intListG hh hl fun h' tk t' hk=>?_
 have hs:preSum (numAt xs') xs'.size=ns.sum:=by
  rw [← hi.numsOf,nums_intItems,preSum_eq,List.take_of_length_le (by simp)]
 rw [hs]
 exact (Step.grow (s':={ s with heap:=h',toks:=tk }) I L hk rfl rfl).inv |> fun J=>Post.after (Step.grow (s':={ s with heap:=h',toks:=tk }) I L hk rfl rfl) (jD J (Step.grow (s':={ s with heap:=h',toks:=tk }) I L hk rfl rfl).loc hB (.int _ _))
end
structure Prg where
 K:Frag
 C:Addr
 meths:List (Str×Addr)
 flds:List Str
 gl:Str→Option V
 tab:Addr
 tabC:Addr
 tabF:Nat→Nat
 rx:Addr→Option (Array Nat)
 srch:Addr
noncomputable def qFi:V→Bool
 | .top w=>handedIn w
 | _=>true
noncomputable def jJ (G:Prg) (o:V) (H:Hp):Option (Nat×Nat×List (Str×V)):=match o with
 | .ref k=>(match H.obj k with
  | some (.inst C d)=>(match H.obj d with
   | some (.dict fs)=>if C=G.C then some (k,d,fs) else none
   | _=>none)
  | _=>none)
 | _=>none
noncomputable def qLf (G:Prg) (o:V) (f:Str) (H:Hp):Ov:=match jJ G o H with
 | some (_,_,fs)=>if G.flds.contains f=true then (match fs.lookup f with
   | some v=>if qFi v=true then .ok v else .bad
   | none=>.bad) else .bad
 | none=>if f=("append" : Str) then (match o with
   | .ref k=>(match H.obj k with | some (.list _)=>.ok (.bnd k) | _=>.bad)
   | _=>.bad) else .bad
noncomputable def qUh (G:Prg) (o:V) (f:Str) (v:V) (H:Hp):Option Hp:=match jJ G o H with
 | some (_,d,fs)=>if G.flds.contains f=true∧fs.length≤100 then some { H with obj:=fun j=>if j=d then some (.dict (setF f v fs)) else H.obj j } else none
 | none=>none
noncomputable def zI (m:Str):Option String:=if m=("find" : Str) then some "str.find" else if m=("rfind" : Str) then some "str.rfind" else if m=("split" : Str) then some "str.split" else if m=("join" : Str) then some "str.join" else none
noncomputable def kX (m:Str):Option String:=if m=("append" : Str) then some "list.append" else none
noncomputable def vN (m:Str):Option String:=if m=("end" : Str) then some "re.Match.end" else if m=("start" : Str) then some "re.Match.start" else if m=("span" : Str) then some "re.Match.span" else none
noncomputable def qHy (G:Prg) (o:V) (m:Str) (H:Hp):Option (V×List V):=match o with
 | .str x=>(zI m).map fun i=>(.top (.builtin i),[.str x])
 | .mt p e=>(vN m).map fun i=>(.top (.builtin i),[.mt p e])
 | .ref k=>(match jJ G (.ref k) H with
  | some (_,_,fs)=>if fs.lookup m=none then (G.meths.lookup m).map fun g=>(.top (.ref g),[.ref k]) else none
  | none=>(match H.obj k with
   | some (.list _)=>(kX m).map fun i=>(.top (.builtin i),[.ref k])
   | _=>none))
 | _=>none
noncomputable def wH (args:List V) (f:V→Rs V):Rs V:=match args with | [a]=>f a | _=>.bad
noncomputable def qOb (args:List V) (f:V→V→Rs V):Rs V:=match args with | [a,b]=>f a b | _=>.bad
noncomputable def zGw (args:List V) (f:V→V→V→Rs V):Rs V:=match args with | [a,b,c]=>f a b c | _=>.bad
noncomputable def qYt (args:List V) (f:V→V→V→V→Rs V):Rs V:=match args with | [a,b,c,d]=>f a b c d | _=>.bad
noncomputable def bapp (calm:Bool) (i:String) (args:List V) (H:Hp):Rs V :=
 if i = "len" then wH args fun a=>qHo a H
 else if i = "list.append" then qOb args fun a b=>zY a b H
 else if i = "sum" then wH args fun a=>if calm=true then .bad else qZv a H
 else if i = "str.find" then (if args.length=4 then qYt args fun a b c d=>vM jP a b c d H else zGw args fun a b c=>qIb a b c H)
 else if i = "str.rfind" then qYt args fun a b c d=>vM jC a b c d H
 else if i = "re.Match.end" then wH args fun a=>qXl a H
 else if i = "re.Match.start" then wH args fun a=>qEt a H
 else if i = "re.Match.span" then wH args fun a=>qMm a H
 else if i = "str.split" then qOb args fun a b=>qBf a b H
 else if i = "str.join" then qOb args fun a b=>yW a b H
 else .bad
noncomputable def tapp (i:String) (args:List V) (H:Hp):Rs V :=
 if i = "range" then uJ args H
 else if i = "tuple" then wH args fun a=>qTa a H
 else .bad
noncomputable abbrev Fns:=Addr→List V→Hp→Rs V
noncomputable abbrev qSm:=List Str→X→List (Str×Nat)→List V→Hp→Rs V
noncomputable abbrev qZd:=Addr→List V→Hp→Option Hp
noncomputable def zGc (G:Prg) (calm:Bool) (fns:Fns) (lam:qSm) (f:V) (args:List V) (H:Hp):Rs V:=match f with
 | .top (.builtin i)=>bapp calm i args H
 | .top (.type i)=>tapp i args H
 | .top (.ref a)=>if a=G.srch then vD args H else (G.rx a).elim (fns a args H) fun code=>vO code args H
 | .clo ps x cs=>lam ps x cs args H
 | .bnd k=>wH args fun x=>zY (.ref k) x H
 | _=>.bad
noncomputable def trV (G:Prg) (v:V):Option (Nat→Nat):=match v with
 | .top (.ref d)=>if d=G.tab then some G.tabF else none
 | _=>none
noncomputable def zNo (xs:qZd) (f:V) (args:List V) (H:Hp):Option Hp:=match f with
 | .top (.ref a)=>xs a args H
 | _=>none
noncomputable def mk (G:Prg) (lv:Nat) (fns:Fns) (lam:qSm) (xs:qZd):Sx:={ lvl:=lv,gl:=G.gl,app:=zGc G false fns lam,get:=qHy G,fld:=qLf G,setA:=qUh G,tr:=trV G,exc:=zNo xs }
structure PrgOk (P:Par) (G:Prg):Prop where
 cls:ClsOk P G.K G.C
 tab:TabOk G.K G.tabC G.tab G.tabF
 lam:qIy P
 srch:∃ pt,P.B.get? G.srch=some (boundObj "re.Pattern.search" pt)∧PatAt P.B pt code1
 rx:∀ b code,G.rx b=some code→∃ pt,P.B.get? b=some (boundObj "re.Pattern.match" pt)∧PatAt P.B pt code
 meth:∀ m g,G.meths.lookup m=some g→findIn G.K (.ref G.C) m=some (some (.ref g))∧typeIn G.K (.ref g)=some (.type "function")
 fld:∀ f,G.flds.contains f=true→findIn G.K (.ref G.C) f=some none
 gl:∀ x v,G.gl x=some v→∃ c mg mb,P.B.Ns mainGlobals mg∧P.B.Ns builtinsNs mb∧(mg x=some c∨(mg x=none∧mb x=some c))∧∀ W n,VR W n v c
noncomputable def qZc (P:Par) (lv:Nat) (fns:Fns):Prop:=∀ fr A env,Fm P lv fr A env→∀ W σ s,Inv P fr W σ.toHp s→Loc P env W σ s.heap→∀ a args cargs,VRs W σ.nxt args cargs→(fns a args σ.toHp).lift σ≠.bad →
  vB P.M A (.ref a) s∧wpAny P.M A (call (.ref a) cargs []) (Post P fr env W σ s ((fns a args σ.toHp).lift σ)) NoE s
noncomputable def qGc (P:Par) (lv:Nat) (lam:qSm):Prop:=∀ fr A env,Fm P lv fr A env→∀ W σ s,Inv P fr W σ.toHp s→Loc P env W σ s.heap→∀ ps x cs cf args cargs,VR W σ.nxt (.clo ps x cs) cf→VRs W σ.nxt args cargs→(lam ps x cs args σ.toHp).lift σ≠.bad →
  vB P.M A cf s∧wpAny P.M A (call cf cargs []) (Post P fr env W σ s ((lam ps x cs args σ.toHp).lift σ)) NoE s
noncomputable def qMa (P:Par) (lv:Nat) (xs:qZd):Prop:=∀ fr A env,Fm P lv fr A env→P.ex=none→∀ W σ s,Inv P fr W σ.toHp s→Loc P env W σ s.heap→∀ a args cargs H,VRs W σ.nxt args cargs→xs a args σ.toHp=some H →
  vB P.M A (.ref a) s∧wpAny P.M A (call (.ref a) cargs []) (fun _ _=>False) (zLh P fr env W σ s H) s
section
variable {P:Par} {fr:List Nat} {A:Around} {env:Env} {W W':Wd} {σ σ':St} {s s':Shared} {G:Prg} {lv:Nat} {fns:Fns} {lam:qSm} {xs:qZd} {calm:Bool}
theorem jZ {o:V} {H:Hp} {k d:Nat} {fs:List (Str×V)} (h:jJ G o H=some (k,d,fs)):o=.ref k∧H.obj k=some (.inst G.C d)∧H.obj d=some (.dict fs):=by
 unfold jJ at h
 split at h
 ·split at h
  ·rename_i hk
   split at h
   ·rename_i hd
    split at h
    ·rename_i hC; cases h; exact ⟨rfl,hC ▸ hk,hd⟩
    ·cases h
   ·cases h
  ·cases h
 ·cases h
theorem qRa {W:Wd} {n:Nat} {v:V} {c:Value} (h:qFi v=true) (hv:VR W n v c):handedIn c=true:=by
 cases hv with
 | top=>exact h
 | _=>rfl
theorem VRs.inv3 {W:Wd} {n:Nat} {x y z:V} {cs:List Value} (h:VRs W n [x,y,z] cs):∃ c d e,cs=[c,d,e]∧VR W n x c∧VR W n y d∧VR W n z e:=by
 obtain ⟨c,ds,rfl,a,b⟩:=h.inv_cons
 obtain ⟨d,e,rfl,b',c'⟩:=b.inv2
 exact ⟨c,d,e,rfl,a,b',c'⟩
theorem qZb {M:Model} {x:Str} {t:Tok} {R:Value×List Value→Shared→Prop} {E:Value→Shared→Prop} {pl:Sem Bool} (hR:R (.builtin "str.find", [.str x t]) s):wpAny M A (getMethod (.str x t) "find" pl) R E s:=by
 with_reducible exact GM.of (.str x t) (typeIs_str _ _ _) PySem.F.slot_str_find PySem.F.type_str_find GM.noRef hR
theorem kK {α:Type} {c:Prop} [Decidable c] {a b:α} {G:α→Prop} (h1:c→G a) (h2:¬ c→G b):G (if c then a else b):=by
 by_cases h:c
 ·rw [if_pos h]; exact h1 h
 ·rw [if_neg h]; exact h2 h
theorem qCp {args:List V} {f:V→Rs V} {G:Rs V→Prop} (h0:G .bad) (h:∀ a,args=[a]→G (f a)):G (wH args f):=by
 rcases args with _ | ⟨a,_ | ⟨b,r⟩⟩
 ·exact h0
 ·exact h _ rfl
 ·exact h0
theorem qYu {args:List V} {f:V→V→Rs V} {G:Rs V→Prop} (h0:G .bad) (h:∀ a b,args=[a,b]→G (f a b)):G (qOb args f):=by
 rcases args with _ | ⟨a,_ | ⟨b,_ | ⟨c,r⟩⟩⟩
 ·exact h0
 ·exact h0
 ·exact h _ _ rfl
 ·exact h0
theorem zMm {args:List V} {f:V→V→V→Rs V} {G:Rs V→Prop} (h0:G .bad) (h:∀ a b c,args=[a,b,c]→G (f a b c)):G (zGw args f):=by
 rcases args with _ | ⟨a,_ | ⟨b,_ | ⟨c,_ | ⟨d,r⟩⟩⟩⟩
 ·exact h0
 ·exact h0
 ·exact h0
 ·exact h _ _ _ rfl
 ·exact h0
theorem zGx {args:List V} {f:V→V→V→V→Rs V} {G:Rs V→Prop} (h0:G .bad) (h:∀ a b c d,args=[a,b,c,d]→G (f a b c d)):G (qYt args f):=by
 rcases args with _ | ⟨a,_ | ⟨b,_ | ⟨c,_ | ⟨d,_ | ⟨e,r⟩⟩⟩⟩⟩
 ·exact h0
 ·exact h0
 ·exact h0
 ·exact h0
 ·exact h _ _ _ _ rfl
 ·exact h0
theorem qSo {M:Model} {x:Str} {t:Tok} {R:Value×List Value→Shared→Prop} {E:Value→Shared→Prop} {pl:Sem Bool} (hR:R (.builtin "str.rfind", [.str x t]) s):wpAny M A (getMethod (.str x t) "rfind" pl) R E s:=by
 with_reducible exact GM.of (.str x t) (typeIs_str _ _ _) PySem.F.slot_str_rfind PySem.F.type_str_rfind GM.noRef hR
theorem qSn {M:Model} {x:Str} {t:Tok} {R:Value×List Value→Shared→Prop} {E:Value→Shared→Prop} {pl:Sem Bool} (hR:R (.builtin "str.split", [.str x t]) s):wpAny M A (getMethod (.str x t) "split" pl) R E s:=by
 with_reducible exact GM.of (.str x t) (typeIs_str _ _ _) PySem.F.slot_str_split PySem.F.type_str_split GM.noRef hR
theorem qZa {M:Model} {x:Str} {t:Tok} {R:Value×List Value→Shared→Prop} {E:Value→Shared→Prop} {pl:Sem Bool} (hR:R (.builtin "str.join", [.str x t]) s):wpAny M A (getMethod (.str x t) "join" pl) R E s:=by
 with_reducible exact GM.of (.str x t) (typeIs_str _ _ _) PySem.F.slot_str_join PySem.F.type_str_join GM.noRef hR
noncomputable def BG (P:Par) (fr:List Nat) (A:Around) (env:Env) (W:Wd) (σ:St) (s:Shared) (f:Value) (cargs:List Value) (r:Rs V):Prop:=r.lift σ≠.bad→wpAny P.M A (call f cargs []) (Post P fr env W σ s (r.lift σ)) NoE s
noncomputable def MG (M:Model) (A:Around) (s:Shared) (v:Value) (m:Str) (R:Value×List Value→Shared→Prop) (E:Value→Shared→Prop) (pl:Sem Bool) (i:String) (o:Option String):Prop:=o=some i→wpAny M A (getMethod v m pl) R E s
theorem zFv (hc:calm=false→P.ex=none) (F:Fm P lv fr A env) (I:Inv P fr W σ.toHp s) (L:Loc P env W σ s.heap) {i:String} {args:List V} {cargs:List Value} (ha:VRs W σ.nxt args cargs) :
  (bapp calm i args σ.toHp).lift σ≠.bad→wpAny P.M A (call (.builtin i) cargs []) (Post P fr env W σ s ((bapp calm i args σ.toHp).lift σ)) NoE s:=by
 have h0:BG P fr A env W σ s (.builtin i) cargs .bad:=fun hne=>absurd rfl hne
 show BG P fr A env W σ s (.builtin i) cargs (bapp calm i args σ.toHp)
 unfold bapp
 refine kK (G:=BG P fr A env W σ s (.builtin i) cargs) (fun hi=>qCp (G:=BG P fr A env W σ s (.builtin i) cargs) h0 fun a e=>?_) fun _=>?_
 ·subst hi e
  obtain ⟨_,rfl,h1⟩:=ha.inv1
  exact fun hne=>zKd I L h1 hne
 refine kK (G:=BG P fr A env W σ s (.builtin i) cargs) (fun hi=>qYu (G:=BG P fr A env W σ s (.builtin i) cargs) h0 fun a b e=>?_) fun _=>?_
 ·subst hi e
  obtain ⟨_,_,rfl,h1,h2⟩:=ha.inv2
  exact fun hne=>qSk I L F.hL h1 h2 hne
 refine kK (G:=BG P fr A env W σ s (.builtin i) cargs) (fun hi=>qCp (G:=BG P fr A env W σ s (.builtin i) cargs) h0 fun a e=>?_) fun _=>?_
 ·subst hi e
  obtain ⟨_,rfl,h1⟩:=ha.inv1
  refine kK (G:=BG P fr A env W σ s (.builtin "sum") _) (fun _=>fun hne=>absurd rfl hne) fun hcm=>?_
  exact fun hne=>zHg (F.handled.plain (hc (by cases calm <;> first | rfl | exact absurd rfl hcm))) I L h1 hne
 refine kK (G:=BG P fr A env W σ s (.builtin i) cargs) (fun hi=>?_) fun _=>?_
 ·refine kK (G:=BG P fr A env W σ s (.builtin i) cargs) (fun _=>zGx (G:=BG P fr A env W σ s (.builtin i) cargs) h0 fun a b c d e=>?_) fun _=>zMm (G:=BG P fr A env W σ s (.builtin i) cargs) h0 fun a b c e=>?_
  ·subst hi e
   exact fun hne=>qWz I L ha hne
  ·subst hi e
   obtain ⟨_,_,_,rfl,h1,h2,h3⟩:=ha.inv3
   exact fun hne=>zFa I L h1 h2 h3 hne
 refine kK (G:=BG P fr A env W σ s (.builtin i) cargs) (fun hi=>zGx (G:=BG P fr A env W σ s (.builtin i) cargs) h0 fun a b c d e=>?_) fun _=>?_
 ·subst hi e
  exact fun hne=>qUp I L ha hne
 refine kK (G:=BG P fr A env W σ s (.builtin i) cargs) (fun hi=>qCp (G:=BG P fr A env W σ s (.builtin i) cargs) h0 fun a e=>?_) fun _=>?_
 ·subst hi e
  obtain ⟨_,rfl,h1⟩:=ha.inv1
  exact fun hne=>zKo I L h1 hne
 refine kK (G:=BG P fr A env W σ s (.builtin i) cargs) (fun hi=>qCp (G:=BG P fr A env W σ s (.builtin i) cargs) h0 fun a e=>?_) fun _=>?_
 ·subst hi e
  obtain ⟨_,rfl,h1⟩:=ha.inv1
  exact fun hne=>qOv I L h1 hne
 refine kK (G:=BG P fr A env W σ s (.builtin i) cargs) (fun hi=>qCp (G:=BG P fr A env W σ s (.builtin i) cargs) h0 fun a e=>?_) fun _=>?_
 ·subst hi e
  obtain ⟨_,rfl,h1⟩:=ha.inv1
  exact fun hne=>qZy I L h1 hne
 refine kK (G:=BG P fr A env W σ s (.builtin i) cargs) (fun hi=>qYu (G:=BG P fr A env W σ s (.builtin i) cargs) h0 fun a b e=>?_) fun _=>?_
 ·subst hi e
  obtain ⟨_,_,rfl,h1,h2⟩:=ha.inv2
  exact fun hne=>qTp I L h1 h2 hne
 refine kK (G:=BG P fr A env W σ s (.builtin i) cargs) (fun hi=>qYu (G:=BG P fr A env W σ s (.builtin i) cargs) h0 fun a b e=>?_) fun _=>?_
 ·subst hi e
  obtain ⟨_,_,rfl,h1,h2⟩:=ha.inv2
  exact fun hne=>zEj I L h1 h2 hne
 ·exact h0
theorem qZq (I:Inv P fr W σ.toHp s) (L:Loc P env W σ s.heap) {i:String} {args:List V} {cargs:List Value} (ha:VRs W σ.nxt args cargs) :
  (tapp i args σ.toHp).lift σ≠.bad→wpAny P.M A (call (.type i) cargs []) (Post P fr env W σ s ((tapp i args σ.toHp).lift σ)) NoE s:=by
 have h0:BG P fr A env W σ s (.type i) cargs .bad:=fun hne=>absurd rfl hne
 show BG P fr A env W σ s (.type i) cargs (tapp i args σ.toHp)
 unfold tapp
 refine kK (G:=BG P fr A env W σ s (.type i) cargs) (fun hi=>?_) fun _=>?_
 ·subst hi
  exact fun hne=>range_ok I L ha hne
 refine kK (G:=BG P fr A env W σ s (.type i) cargs) (fun hi=>qCp (G:=BG P fr A env W σ s (.type i) cargs) h0 fun a e=>?_) fun _=>?_
 ·subst hi e
  obtain ⟨_,rfl,h1⟩:=ha.inv1
  exact fun hne=>zHb I L h1 hne
 ·exact h0
theorem zFs (F:Fm P lv fr A env) (I:Inv P fr W σ.toHp s) (L:Loc P env W σ s.heap) {k:Nat} {args:List V} {cf:Value} {cargs:List Value} (hf:VR W σ.nxt (.bnd k) cf) (ha:VRs W σ.nxt args cargs) :
  (wH args fun x=>zY (.ref k) x σ.toHp).lift σ≠.bad→wpAny P.M A (call cf cargs []) (Post P fr env W σ s ((wH args fun x=>zY (.ref k) x σ.toHp).lift σ)) NoE s:=by
 show BG P fr A env W σ s cf cargs (wH args fun x=>zY (.ref k) x σ.toHp)
 refine qCp (G:=BG P fr A env W σ s cf cargs) (fun hne=>absurd rfl hne) fun a e=>?_
 subst e
 obtain ⟨_,rfl,h1⟩:=ha.inv1
 exact fun hne=>zKu I L F.hL hf h1 hne
theorem zKy (Q:PrgOk P G) (hc:calm=false→P.ex=none) (hF:qZc P lv fns) (hM:qGc P lv lam) (F:Fm P lv fr A env) (I:Inv P fr W σ.toHp s) (L:Loc P env W σ s.heap) {f:V} {args:List V} {cf:Value} {cargs:List Value} (hf:VR W σ.nxt f cf) (ha:VRs W σ.nxt args cargs) (hne:(zGc G calm fns lam f args σ.toHp).lift σ≠.bad) :
  vB P.M A cf s∧wpAny P.M A (call cf cargs []) (Post P fr env W σ s ((zGc G calm fns lam f args σ.toHp).lift σ)) NoE s:=by
 revert hne
 unfold zGc
 split
 ·obtain rfl:=hf.inv_top
  exact fun hne=>⟨qCz,zFv hc F I L ha hne⟩
 ·obtain rfl:=hf.inv_top
  exact fun hne=>⟨qKy,qZq I L ha hne⟩
 ·obtain rfl:=hf.inv_top
  split
  ·rename_i hs
   subst hs
   obtain ⟨pt,p1,p2⟩:=Q.srch
   exact fun hne=>⟨fun E Q hq=>yV (I.keep _ _ p1) hq,qPs p1 p2 I L ha hne⟩
  ·rename_i a _
   cases hx:G.rx a with
   | some code =>
    obtain ⟨pt,p1,p2⟩:=Q.rx _ _ hx
    exact fun hne=>⟨fun E Q hq=>yV (I.keep _ _ p1) hq,qVu p1 p2 I L ha hne⟩
   | none=>exact fun hne=>hF fr A env F W σ s I L _ args cargs ha hne
 ·exact fun hne=>hM fr A env F W σ s I L _ _ _ _ args cargs hf ha hne
 ·intro hne
  refine ⟨?_,zFs F I L hf ha hne⟩
  obtain ⟨b,rfl,hk,hb⟩:=hf.inv_bnd
  exact qQv (I.frz _ _ hb).1
 ·intro hne; exact absurd rfl hne
theorem qZx {M:Model} {x m:Str} {t:Tok} {i:String} {R:Value×List Value→Shared→Prop} {E:Value→Shared→Prop} {pl:Sem Bool} (hR:R (.builtin i,[.str x t]) s) :
  zI m=some i→wpAny M A (getMethod (.str x t) m pl) R E s:=by
 show MG M A s (.str x t) m R E pl i (zI m)
 have h0:MG M A s (.str x t) m R E pl i none:=fun e=>nomatch e
 unfold zI
 refine kK (G:=MG M A s (.str x t) m R E pl i) (fun hm=>?_) fun _=>?_
 ·subst hm
  intro e; cases e
  exact qZb hR
 refine kK (G:=MG M A s (.str x t) m R E pl i) (fun hm=>?_) fun _=>?_
 ·subst hm
  intro e; cases e
  exact qSo hR
 refine kK (G:=MG M A s (.str x t) m R E pl i) (fun hm=>?_) fun _=>?_
 ·subst hm
  intro e; cases e
  exact qSn hR
 refine kK (G:=MG M A s (.str x t) m R E pl i) (fun hm=>?_) fun _=>?_
 ·subst hm
  intro e; cases e
  exact qZa hR
 ·exact h0
theorem qVz {M:Model} {a:Addr} {o:Obj} {m:Str} {i:String} {R:Value×List Value→Shared→Prop} {E:Value→Shared→Prop} {pl:Sem Bool} (ho:s.heap.get? a=some o) (hcl:o.cls=.type "list") (hd:o.dict=none) (hR:R (.builtin i,[.ref a]) s) :
  kX m=some i→wpAny M A (getMethod (.ref a) m pl) R E s:=by
 show MG M A s (.ref a) m R E pl i (kX m)
 have h0:MG M A s (.ref a) m R E pl i none:=fun e=>nomatch e
 unfold kX
 refine kK (G:=MG M A s (.ref a) m R E pl i) (fun hm=>?_) fun _=>?_
 ·subst hm
  intro e; cases e
  exact getMethod_builtin ⟨o,ho,hcl⟩ PySem.F.plainAttrs_list PySem.F.slot_list_append PySem.F.type_list_append (fun a e=>by cases e; exact ⟨o,ho,hd⟩) hR
 ·exact h0
theorem zJz {M:Model} {a:Addr} {o:Obj} {m:Str} {i:String} {R:Value×List Value→Shared→Prop} {E:Value→Shared→Prop} {pl:Sem Bool} (ho:s.heap.get? a=some o) (hcl:o.cls=.type "re.Match") (hd:o.dict=none) (hR:R (.builtin i,[.ref a]) s) :
  vN m=some i→wpAny M A (getMethod (.ref a) m pl) R E s:=by
 show MG M A s (.ref a) m R E pl i (vN m)
 have h0:MG M A s (.ref a) m R E pl i none:=fun e=>nomatch e
 unfold vN
 refine kK (G:=MG M A s (.ref a) m R E pl i) (fun hm=>?_) fun _=>?_
 ·subst hm
  intro e; cases e
  exact getMethod_builtin ⟨o,ho,hcl⟩ kC qHa qSw (fun a e=>by cases e; exact ⟨o,ho,hd⟩) hR
 refine kK (G:=MG M A s (.ref a) m R E pl i) (fun hm=>?_) fun _=>?_
 ·subst hm
  intro e; cases e
  exact getMethod_builtin ⟨o,ho,hcl⟩ kC qBg qJc (fun a e=>by cases e; exact ⟨o,ho,hd⟩) hR
 refine kK (G:=MG M A s (.ref a) m R E pl i) (fun hm=>?_) fun _=>?_
 ·subst hm
  intro e; cases e
  exact getMethod_builtin ⟨o,ho,hcl⟩ kC qDo qOg (fun a e=>by cases e; exact ⟨o,ho,hd⟩) hR
 ·exact h0
theorem zKk (Q:PrgOk P G) (I:Inv P fr W σ.toHp s) (L:Loc P env W σ s.heap) {o:V} {m:Str} {co:Value} {vf:V} {first:List V} (ho:VR W σ.nxt o co) (hg:qHy G o m σ.toHp=some (vf,first)) {pl:Sem Bool} {E:Value→Shared→Prop} {R:Value×List Value→Shared→Prop}
  (hQ:∀ r s' W',Step P fr env W σ s W' σ s'→VR W' σ.nxt vf r.1→VRs W' σ.nxt first r.2→R r s'):wpAny P.M A (getMethod co m pl) R E s:=by
 unfold qHy at hg
 split at hg
 ·rename_i x
  obtain ⟨i,e4,e5⟩:=Option.map_eq_some_iff.mp hg
  cases e5
  obtain ⟨t,rfl,h1,h2⟩:=ho.inv_str
  exact qZx (hQ _ s W (Step.refl I L) (.top _) (.cons (.str _ _ h1 h2) .nil)) e4
 ·rename_i p e
  obtain ⟨i,e4,e5⟩:=Option.map_eq_some_iff.mp hg
  cases e5
  obtain ⟨a,ob,rfl,X,h1,h2,h3⟩:=qMy I ho
  exact zJz h1 h2 h3 (hQ _ s W (Step.refl I L) (.top _) (.cons ho .nil)) e4
 ·rename_i k
  obtain ⟨rfl,hk⟩:=ho.inv_ref
  split at hg
  ·rename_i k' d fs hi
   obtain ⟨e0,h1,h2⟩:=jZ hi
   cases e0
   split at hg
   ·rename_i hl
    obtain ⟨g,e1,e2⟩:=Option.map_eq_some_iff.mp hg
    cases e2
    exact qWr Q.cls I h1 h2 (Q.meth m g e1).1 (Q.meth m g e1).2 hl (hQ _ s W (Step.refl I L) (.top _) (.cons (.ref hk) .nil))
   ·cases hg
  ·split at hg
   ·rename_i xs e2
    obtain ⟨i,e4,e5⟩:=Option.map_eq_some_iff.mp hg
    cases e5
    obtain ⟨_,ob,hob,hr⟩:=I.obj _ _ e2
    obtain ⟨items,e,rfl,r,z⟩:=hr.inv_list
    exact qVz hob rfl rfl (hQ _ s W (Step.refl I L) (.top _) (.cons (.ref hk) .nil)) e4
   ·cases hg
 ·cases hg
theorem qVs (Q:PrgOk P G) (hc:P.ex=none) (hF:qZc P lv fns) (hM:qGc P lv lam) (hX:qMa P lv xs):SxOk P (mk G lv fns lam xs):=by
 refine ⟨fun v f e=>?_,⟨Q.lam,fun _=>hc,Q.gl,fun fr A env F W σ s I L f args cf cargs hf ha hne=>zKy Q (fun _=>hc) hF hM F I L hf ha hne,fun fr A env F W σ s I L o m co vf first ho hg pl E R hQ=>zKk Q I L ho hg hQ,?_⟩,fun fr A env F hp W σ s I L f args cf cargs H hf ha he=>?_,?_⟩
 ·have e':trV G v=some f:=e
  unfold trV at e'
  split at e'
  ·split at e'
   ·rename_i hd; cases e'; subst hd; exact ⟨_,_,_,rfl,Q.tab,Q.cls.inn⟩
   ·cases e'
  ·cases e'
 ·intro fr A env F W σ s I L o f co ho hne
  revert hne
  show (qLf G o f σ.toHp).st σ≠.bad→wpAny _ _ _ (Post P fr env W σ s ((qLf G o f σ.toHp).st σ)) NoE s
  unfold qLf
  split
  ·rename_i k d fs hi
   obtain ⟨rfl,h1,h2⟩:=jZ hi
   split
   ·rename_i hf
    have f1:=Q.fld f hf
    obtain ⟨rfl,hk⟩:=ho.inv_ref
    ·split
     ·rename_i v hv
      split
      ·rename_i hh
       intro _
       exact get_field Q.cls I h1 h2 f1 hv (fun c hc=>qRa hh hc) fun c t hc=>⟨_,σ,W,rfl,Step.toks I L t,hc⟩
      ·intro hne; exact absurd rfl hne
     ·intro hne; exact absurd rfl hne
   ·intro hne; exact absurd rfl hne
  ·split
   ·rename_i hf; subst hf
    split
    ·rename_i k hi'
     split
     ·rename_i xs hl
      intro hne
      have hb:qYp (.ref k) σ.toHp=okH (.bnd k) σ.toHp:=by unfold qYp; dsimp only; rw [hl]
      have h:=zFu (A:=A) I L ho (by rw [hb]; exact hne)
      rw [hb] at h
      exact h
     ·intro hne; exact absurd rfl hne
    ·intro hne; exact absurd rfl hne
   ·intro hne; exact absurd rfl hne
 ·cases f with
  | top v=>cases v with
   | ref a =>
    obtain rfl:=hf.inv_top
    exact hX fr A env F hp W σ s I L a args cargs H ha he
   | _=>cases he
  | _=>cases he
 ·intro fr A env F W σ s I L o f v co c H ho hv hs E R hQ
  have hs':qUh G o f v σ.toHp=some H:=hs
  unfold qUh at hs'
  split at hs'
  ·rename_i k d fs hi
   obtain ⟨rfl,h1,h2⟩:=jZ hi
   split at hs'
   ·rename_i hf
    cases hs'
    have f1:=Q.fld f hf.1
    obtain ⟨rfl,hk⟩:=ho.inv_ref
    exact qPr Q.cls I L F.hL h1 h2 f1 hf.2 hv fun s' st=>hQ W s' st
   ·cases hs'
  ·cases hs'
end
end Mine.Lake
end
noncomputable section
namespace Mine.Lake
open PySem PySem.W PyProof.Rows
noncomputable def zLg (K:Frag) (f:Addr) (sc:Scope) (ps:List Str) (body:List Stmt):Prop :=
 ∃ fd,(∃ o:Obj,K.lookup f=some o∧o.data=.func fd)∧fd.scope=sc∧fd.body=.stmts body∧fd.closure=[]∧fd.globals=mainGlobals∧fd.builtins=builtinsNs∧(∃ (c:Addr) (o:Obj) (vs:Array Value) (t:Tok),fd.code=.ref c∧K.lookup c=some o∧o.data=.fields vs∧vs[1]? = some (.str fd.qualname t))∧wS sc ps=true ∧
  ∀ cargs:List Value,cargs.length=ps.length→bindArgs fd ⟨cargs,[]⟩=pure (ps.zip cargs)
noncomputable def zM (K:Frag) (f:Addr) (sc:Scope) (ps:List Str) (b:S):Prop:=∃ body,zLg K f sc ps body∧TieS b sc (.l body)
noncomputable abbrev Rows:=List (Addr×Scope×List Str×S)
noncomputable def qY (rows:Rows) (cx:Sx) (a:Addr) (args:List V) (H:Hp):Rs V:=match rows.lookup a with
 | some (sc,ps,b)=>jU sc ps b cx args H
 | none=>.bad
noncomputable def noF:Fns:=fun _ _ _=>.bad
noncomputable def qBt (G:Prg) (init:List V→Hp→Rs V) (fns:Fns):Fns:=fun a args H=>if a=G.C then qHn G.C init args H else fns a args H
structure XRow where
 f:Addr
 ps:List Str
 e:X
noncomputable def qCe (ps:List Str) (e:X) (cx:Sx) (args:List V) (H:Hp):Option Hp :=
 if args.length=ps.length then (match ev cx.toCx e (entry (ps.zip args) H) with
  | .ok v σ=>if zT σ.toHp v=some false then some σ.toHp else none
  | .bad=>none) else none
noncomputable def qSp (X:XRow) (cx:Sx) (a:Addr) (args:List V) (H:Hp):Option Hp:=if a=X.f then qCe X.ps X.e cx args H else none
noncomputable def noM:qSm:=fun _ _ _ _ _=>.bad
noncomputable def noX:qZd:=fun _ _ _=>none
noncomputable def zKf (cx:Sx):qSm:=fun ps x cs args H=>yG ps x cs cx.toCx args H
noncomputable def tower (G:Prg) (rows:Rows) (X:XRow) (fI:Addr):Nat→Sx
 | 0=>mk G 0 noF noM noX
 | 1=>mk G 1 (qY rows (tower G rows X fI 0)) (zKf (tower G rows X fI 0)) (qSp X (tower G rows X fI 0))
 | n+2=>mk G (n+2) (qBt G (qY rows (tower G rows X fI n) fI) (qY rows (tower G rows X fI (n+1)))) (zKf (tower G rows X fI (n+1))) (qSp X (tower G rows X fI (n+1)))
section
variable {P:Par} {fr:List Nat} {A:Around} {env:Env} {W W':Wd} {σ σ':St} {s s':Shared} {cx:Sx} {G:Prg} {rows:Rows} {fI:Addr} {xr:XRow}
theorem wK:∀ n,(tower G rows xr fI n).lvl=n
 | 0=>rfl
 | 1=>rfl
 | _+2=>rfl
theorem zGt {K:Frag} {f:Addr} {sc:Scope} {ps:List Str} {body:List Stmt} (X:K.In P.B) (hl:P.B.NoLimit) (h:zLg K f sc ps body):∃ fd,FnOk P f fd ps body∧fd.scope=sc:=by
 obtain ⟨fd,h1,h2,h3,h4,h5,h6,h7,h8,h10⟩:=h
 refine ⟨fd,⟨?_,hl,?_,h3,h4,h5,h6,fun s _ cargs hc=>BindsTo.of_eq (h10 cargs hc),by rw [h2]; exact h8⟩,h2⟩
 ·obtain ⟨o,e1,e2⟩:=h1
  exact ⟨o,X _ _ e1,e2⟩
 ·obtain ⟨c,o,vs,t,e1,e2,e3,e4⟩:=h7
  exact ⟨c,o,vs,t,e1,X _ _ e2,e3,e4⟩
noncomputable abbrev qLz (K:Frag) (rows:Rows):Prop:=∀ a sc ps b,rows.lookup a=some (sc,ps,b)→zM K a sc ps b
theorem qBo (Xn:G.K.In P.B) (hlim:P.B.NoLimit) (hR:qLz G.K rows) {cx:Sx} (C:SxOk P cx)
  (F:Fm P (cx.lvl+1) fr A env) (I:Inv P fr W σ.toHp s) (L:Loc P env W σ s.heap) {a:Addr} {args:List V} {cargs:List Value} (ha:VRs W σ.nxt args cargs) (hne:(qY rows cx a args σ.toHp).lift σ≠.bad) :
  vB P.M A (.ref a) s∧codeAny P.M A (.call (.ref a) ⟨cargs,[]⟩) (fun r s'=>match r with | .ok (.ret v)=>Post P fr env W σ s ((qY rows cx a args σ.toHp).lift σ) v s' | .ok _=>False | .error e=>NoE e s') s:=by
 cases hq:rows.lookup a with
 | none =>
  have:qY rows cx a args σ.toHp=.bad:=by unfold qY; rw [hq]
  rw [this] at hne; exact absurd rfl hne
 | some r =>
  obtain ⟨sc,ps,b⟩:=r
  have he:qY rows cx a args σ.toHp=jU sc ps b cx args σ.toHp:=by unfold qY; rw [hq]
  rw [he] at hne ⊢
  obtain ⟨body,hd,hb⟩:=hR _ _ _ _ hq
  obtain ⟨fd,K,rfl⟩:=zGt Xn hlim hd
  exact ⟨qDu K I,qYl K C hb F I L ha hne⟩
theorem zJv {lv:Nat}:qZc P lv noF:=fun fr A env F W σ s I L a args cargs ha hne=>absurd rfl hne
theorem zJu {lv:Nat}:qGc P lv noM:=fun fr A env F W σ s I L ps x cs cf args cargs hv ha hne=>absurd rfl hne
theorem zJt {lv:Nat}:qMa P lv noX:=fun fr A env F hp W σ s I L a args cargs H ha he=>nomatch he
theorem qNf (hlim:P.B.NoLimit) {cx:Sx} (C:SxOk P cx):qGc P (cx.lvl+1) (zKf cx) :=
 fun fr A env F W σ s I L ps x cs cf args cargs hv ha hne=>qYm C.base hlim F I L hv ha hne
theorem qDe (C:SxOk P cx) (F:FmS P cx.lvl fr A env) (hp:P.ex=none) {sc:Scope} (S:ScOk sc env) {e:X} {t:Expr} {p:Pos} (h:Ok e sc (.e t)) (I:Inv P fr W σ.toHp s) (L:Loc P env W σ s.heap) {v:V} {σ₁:St} (he:ev cx.toCx e σ=.ok v σ₁) (hv:zT σ₁.toHp v=some false) {Q:Flow→Shared→Prop} :
  wpAny P.M A (exec (.Assert t none p) env) Q (fun e s'=>∃ W' ea,e=.ref ea∧Step P fr env W σ s W' σ₁ s'∧ExcAt P fr W' σ₁.nxt s.heap s'.heap ea "AssertionError") s:=by
 have htr:tr (ev cx.toCx e) σ≠.bad:=by rw [jR he,zE hv]; nofun
 refine wpAny_Assert_new (F.handled.plain hp) (uX (sound C.base h fr A env F.toFm S).2 I L htr fun bb v' σ' W' s' e' hb st=>?_)
 rw [he] at e'; cases e'
 rw [hv] at hb; cases hb
 rw [if_neg (by decide)]
 intro h' ea hx'
 obtain ⟨st2,x⟩:=zFd (tk:=s'.toks) st.inv st.loc hx'
 exact ⟨W',ea,rfl,st.trans st2,x.older st.nx.live⟩
theorem qXc (C:SxOk P cx) (hp:P.ex=none) {sc:Scope} {e:X} {t:Expr} {p:Pos} {rest:List Stmt} (h:Ok e sc (.e t)) {ps:List Str} {args:List V} {H H':Hp} (hn:yR sc ps=true) (he:qCe ps e cx args H=some H') :
  args.length=ps.length∧qZf P cx.lvl sc (.Assert t none p::rest) (entryC sc (ps.zip args) H) .bad (some H'):=by
 unfold qCe at he
 by_cases hlen:args.length=ps.length
 ·rw [if_pos hlen] at he
  refine ⟨hlen,fun fr A env W s F S I L=>?_⟩
  rw [yZ hn] at I L ⊢
  cases e1:ev cx.toCx e (entry (ps.zip args) H) with
  | bad=>rw [e1] at he; cases he
  | ok v σ₁ =>
   rw [e1] at he
   replace he:(if zT σ₁.toHp v=some false then some σ₁.toHp else none)=some H':=he
   by_cases hv:zT σ₁.toHp v=some false
   ·rw [if_pos hv] at he; cases he
    refine wpAny_execs_cons (wpAny_mono (qDe (Q:=fun _ _=>False) C F hp S h I L e1 hv) (fun _ _ h=>h.elim) fun e s' ⟨W',ea,r1,st,x⟩=>?_)
    exact ⟨_,rfl,W',ea,_,r1,rfl,st,x⟩
   ·rw [if_neg hv] at he; cases he
 ·rw [if_neg hlen] at he; cases he
noncomputable def XOk (K:Frag) (X:XRow):Prop:=∃ sc t p rest,zLg K X.f sc X.ps (.Assert t none p::rest)∧Ok X.e sc (.e t)∧yR sc X.ps=true
theorem zLj (Xn:G.K.In P.B) (hlim:P.B.NoLimit) (hX:XOk G.K xr) {cx:Sx} (C:SxOk P cx):qMa P (cx.lvl+1) (qSp xr cx):=by
 intro fr A env F hp W σ s I L a args cargs H ha he
 unfold qSp at he
 by_cases ha':a=xr.f
 ·rw [if_pos ha'] at he
  subst ha'
  obtain ⟨sc,t,p,rest,hd,h1,h2⟩:=hX
  obtain ⟨fd,K,rfl⟩:=zGt Xn hlim hd
  obtain ⟨hlen,hB⟩:=qXc C hp h1 h2 he
  refine ⟨qDu K I,wpAny_call (codeAny_mono (qEh K hB F I L ha hlen (fun fl σ' q=>nomatch q)) fun r s' h=>?_)⟩
  match r with
  | .ok (.ret v)=>obtain ⟨_,_,_,q,_⟩:=h; cases q
  | .ok .next=>exact h
  | .ok .brk=>exact h
  | .ok .cont=>exact h
  | .error e=>obtain ⟨H',q,h⟩:=h; cases q; exact h
 ·rw [if_neg ha'] at he; cases he
theorem yN (hp:P.ex=none) (Q:PrgOk P G) (hlim:P.B.NoLimit) (hR:qLz G.K rows) (hX:XOk G.K xr) (hi:findIn G.K (.ref G.C) "__init__" = some (some (.ref fI))) (hf:typeIn G.K (.ref fI)=some (.type "function")) :
  ∀ n,SxOk P (tower G rows xr fI n)
 | 0=>qVs Q hp zJv zJu zJt
 | 1=>by
  have C:=yN hp Q hlim hR hX hi hf 0
  have l1:=wK (G:=G) (rows:=rows) (xr:=xr) (fI:=fI) 0
  have M:=qNf hlim C
  rw [l1] at M
  have hx:=zLj Q.cls.inn hlim hX C
  rw [l1] at hx
  refine qVs Q hp (fun fr A env F W σ s I L a args cargs ha hne=>?_) M hx
  obtain ⟨k,c⟩:=qBo Q.cls.inn hlim hR C (by rw [l1]; exact F) I L ha hne
  exact ⟨k,wpAny_call c⟩
 | n+2=>by
  have C:=yN hp Q hlim hR hX hi hf (n+1)
  have l1:=wK (G:=G) (rows:=rows) (xr:=xr) (fI:=fI) (n+1)
  have M:=qNf hlim C
  rw [l1] at M
  have hx:=zLj Q.cls.inn hlim hX C
  rw [l1] at hx
  have C':=yN hp Q hlim hR hX hi hf n
  have l3:=wK (G:=G) (rows:=rows) (xr:=xr) (fI:=fI) n
  refine qVs Q hp (fun fr A env F W σ s I L a args cargs ha hne=>?_) M hx
  revert hne
  unfold qBt
  by_cases hC:a=G.C
  ·subst hC
   rw [if_pos rfl]
   intro hne
   refine make_inst (lv:=n+1) Q.cls hi hf (fun fr A env F W σ s I L args cargs ha hne=>?_) F I L ha hne
   exact (qBo Q.cls.inn hlim hR C' (by rw [l3]; exact F) I L ha hne).2
  ·rw [if_neg hC]
   intro hne
   obtain ⟨k,c⟩:=qBo Q.cls.inn hlim hR C (by rw [l1]; exact F) I L ha hne
   exact ⟨k,wpAny_call c⟩
end
theorem qDd:∀ (names:List (Str×NameKind)) (m:Nat) (ac:List (Str×Addr)),∀ p∈ac,p∈cellsFrom m names ac:=by
 intro names
 induction names with
 | nil=>exact fun _ _ _ h=>h
 | cons hd tl ih =>
  intro m ac p h
  obtain ⟨y,ky⟩:=hd
  unfold cellsFrom
  split
  ·exact ih _ _ _ (.tail _ h)
  ·exact ih _ _ _ h
theorem qFw {bv:List (Str×V)} {L:Nat}:∀ (names:List (Str×NameKind)) (acc:List (Str×Addr)) (cel:List (Str×Nat)) (H:Hp),(∀ k,H.nxt≤k→H.obj k=none)→(∀ x k,cel.lookup x=some k→k < H.nxt∧acc.lookup x=some (L+1+k)) →
  (∀ k,(qK bv names H cel).1.nxt≤k→(qK bv names H cel).1.obj k=none)∧H.nxt≤(qK bv names H cel).1.nxt ∧
  (∀ x k,(qK bv names H cel).2.lookup x=some k→k < (qK bv names H cel).1.nxt∧(cellsFrom (L+1+H.nxt) names acc).lookup x=some (L+1+k)) ∧
  (∀ k,k < H.nxt→(qK bv names H cel).1.obj k=H.obj k) ∧
  (∀ k,H.nxt≤k→k < (qK bv names H cel).1.nxt→∃ x,(x,L+1+k)∈cellsFrom (L+1+H.nxt) names acc∧(qK bv names H cel).1.obj k=some (.cell (bv.lookup x))∧(x,NameKind.cell)∈names)
 | [],acc,cel,H,h1,h2=>⟨h1,Nat.le_refl _,h2,fun _ _=>rfl,fun k a b=>absurd b (Nat.not_lt.mpr a)⟩
 | (x,kd)::r,acc,cel,H,h1,h2=>by
  unfold qK cellsFrom
  by_cases hk:(kd == NameKind.cell)=true
  ·simp only [if_pos hk]
   have ih:=qFw (bv:=bv) (L:=L) r ((x,L+1+H.nxt)::acc) ((x,H.nxt)::cel) (H.add (.cell (bv.lookup x))) (fun k hk'=>by
     have hk'':H.nxt+1≤k:=hk'
     show (if k=H.nxt then _ else H.obj k)=none
     rw [if_neg (by lia)]; exact h1 k (by lia)) (fun y k hy=>by
     simp only [List.lookup] at hy ⊢
     cases hq:y == x with
     | true=>rw [hq] at hy; cases hy; exact ⟨Nat.lt_succ_self _,rfl⟩
     | false=>rw [hq] at hy; exact ⟨Nat.lt_succ_of_lt (h2 y k hy).1,(h2 y k hy).2⟩)
   have en:L+1+(H.add (.cell (bv.lookup x))).nxt=L+1+H.nxt+1:=rfl
   rw [en] at ih
   obtain ⟨i1,i2,i3,i4,i5⟩:=ih
   have i2':H.nxt+1≤(qK bv r (H.add (.cell (bv.lookup x))) ((x,H.nxt)::cel)).1.nxt:=i2
   refine ⟨i1,by lia,i3,fun k hk'=>?_,fun k a b=>?_⟩
   ·rw [i4 k (Nat.lt_succ_of_lt hk')]
    show (if k=H.nxt then _ else H.obj k)=_
    rw [if_neg (by lia)]
   ·by_cases hkn:k=H.nxt
    ·subst hkn
     refine ⟨x,qDd _ _ _ _ (.head _),?_,by rw [show kd=NameKind.cell from by simpa using hk]; exact .head _⟩
     rw [i4 _ (Nat.lt_succ_self _)]
     show (if H.nxt=H.nxt then _ else _)=_
     rw [if_pos rfl]
    ·obtain ⟨y,j1,j2,j3⟩:=i5 k (by show H.nxt+1≤k; lia) b
     exact ⟨y,j1,j2,.tail _ j3⟩
  ·simp only [if_neg hk]
   obtain ⟨i1,i2,i3,i4,i5⟩:=qFw (bv:=bv) (L:=L) r acc cel H h1 h2
   exact ⟨i1,i2,i3,i4,fun k a b=>let ⟨y,j1,j2,j3⟩:=i5 k a b; ⟨y,j1,j2,.tail _ j3⟩⟩
theorem vQ {names:List (Str×NameKind)} {y:Str} {v:V}:∀ {l:List (Str×V)},(l.filter (fun p=>names.lookup p.1 == some .local)).lookup y=some v→names.lookup y=some .local∧l.lookup y=some v
 | [],h=>by cases h
 | (z,u)::tl,h=>by
  simp only [List.filter] at h
  cases hz:(names.lookup z == some NameKind.local) with
  | true =>
   rw [hz] at h
   simp only [List.lookup] at h ⊢
   cases hq:y == z with
   | true =>
    rw [hq] at h
    have e:y=z:=by simpa using hq
    subst e
    exact ⟨by simpa using hz,h⟩
   | false=>rw [hq] at h; exact vQ h
  | false =>
   rw [hz] at h
   obtain ⟨p1,p2⟩:=vQ h
   refine ⟨p1,?_⟩
   simp only [List.lookup]
   cases hq:y == z with
   | true =>
    have e:y=z:=by simpa using hq
    subst e
    rw [p1] at hz; simp at hz
   | false=>exact p2
theorem qCj {bv:List (Str×V)} {n:Nat}:∀ (names:List (Str×NameKind)) (H:Hp) (cel:List (Str×Nat)),n≤H.nxt→(∀ x k,cel.lookup x=some k→n≤k)→∀ x k,(qK bv names H cel).2.lookup x=some k→n≤k
 | [],_,_,_,h=>h
 | (y,kd)::r,H,cel,hn,h=>by
  unfold qK
  split
  ·refine qCj r _ _ (Nat.le_succ_of_le hn) fun x k hx=>?_
   simp only [List.lookup] at hx
   cases hq:x == y with
   | true=>rw [hq] at hx; cases hx; exact hn
   | false=>rw [hq] at hx; exact h x k hx
  ·exact qCj r H cel hn h
noncomputable def W0 (T L:Nat) (fz:Nat→Option Obj):Wd:=⟨fun k=>if k=0 then T else L+k,fz⟩
noncomputable def H0 (q:Str):Hp:=⟨fun k=>if k=0 then some (.tab q) else none,1⟩
noncomputable def qNe (sc:Scope) (q:Str) (bv:List (Str×V)):St:={ entryC sc bv (H0 q) with tbl:=some (0,q) }
theorem qTo {P:Par} {sc:Scope} {ps:List Str} {args:List V} {cargs:List Value} {cenv:Env} {s:Shared} {T L cd:Nat} {q:Str} {fz:Nat→Option Obj} (hsh:wS sc ps=true)
  (c1:cenv.scope=sc) (c2:cenv.locals=L) (c3:cenv.cells=cellsFrom (L+1) sc.names []) (c4:cenv.globals=mainGlobals) (c5:cenv.builtins=builtinsNs) (hL:P.B.objs.size=L) (hTL:T < L)
  (hn:s.heap.Ns L (bindL cenv.kindOf (ps.zip cargs) fun _=>none)) (hk:∀ b o,P.B.get? b=some o→s.heap.get? b=some o)
  (hc:∀ x c,(x,c)∈cellsFrom (L+1) sc.names []→s.heap.IsCell c (bindC cenv.kindOf (ps.zip cargs) (fun _=>none) x))
  (hfz:∀ a o,fz a=some o→P.B.get? a=some o) (ha:VRs (W0 T L fz) 0 args cargs) (hg:s.gens = #[]) (ho:s.os=P.os) (hp:P.ex=none) (hPT:P.T=T)
  (hT:P.B.get? T=none) (hT':s.heap.get? T=some (tabObj #[])) (hcd:cenv.code=.ref cd) (hCd:CodeHd P.B cd T) (hq:cenv.qual++Str.ofString "<lambda>" = q) :
  Inv P [L] (W0 T L fz) (qNe sc q (ps.zip args)).toHp s∧Loc P cenv (W0 T L fz) (qNe sc q (ps.zip args)) s.heap∧ScOk sc cenv:=by
 simp only [wS,Bool.and_eq_true,beq_iff_eq,Bool.not_eq_true'] at hsh
 obtain ⟨⟨⟨⟨⟨⟨k1,k2⟩,k3⟩,k4⟩,k5⟩,k6⟩,k7⟩:=hsh
 have c7:∀ y,cenv.kindOf y=sc.names.lookup y:=fun y=>by unfold Env.kindOf; rw [c1]
 obtain ⟨L',hL'⟩:∃ L',L=L'+1:=⟨L - 1,by lia⟩
 obtain ⟨i1,i2,i3,i4,i5⟩:=qFw (bv:=ps.zip args) (L:=L') sc.names [] [] (H0 q) (fun k hk=>by
  have hk':1≤k:=hk
  show (if k=0 then _ else _)=_
  rw [if_neg (by lia)]) (fun x k h=>by cases h)
 have en:L'+1+(H0 q).nxt=L+1:=by rw [hL']; rfl
 rw [en] at i3 i5
 have i2':1≤(qK (ps.zip args) sc.names (H0 q) []).1.nxt:=i2
 have big:∀ a,L≤a→P.B.get? a=none:=fun a h=>Heap.get?_none_of_le (by lia)
 have wl:Wle 0 (W0 T L fz) (W0 T L fz):=.refl ..
 have r0:(W0 T L fz).ρ 0=T:=rfl
 have rs:∀ k,k≠0→(W0 T L fz).ρ k=L+k:=fun k h=>if_neg h
 have rs':∀ k,k≠0→L'+1+k=(W0 T L fz).ρ k:=fun k h=>by rw [rs k h,hL']
 have o0:(qK (ps.zip args) sc.names (H0 q) []).1.obj 0=some (.tab q):=by
  rw [i4 0 (by show 0 < 1; lia)]; rfl
 have cellAt:∀ k,k≠0→k < (qK (ps.zip args) sc.names (H0 q) []).1.nxt→∃ o ob,(qK (ps.zip args) sc.names (H0 q) []).1.obj k=some o∧s.heap.get? ((W0 T L fz).ρ k)=some ob∧OR (W0 T L fz) (qK (ps.zip args) sc.names (H0 q) []).1.nxt o ob:=fun k hk0 h=>by
  obtain ⟨x,j1,j2,j3⟩:=i5 k (by show 1≤k; lia) h
  obtain ⟨ob,e1,d1⟩:=hc x _ j1
  rw [rs' k hk0] at e1
  refine ⟨_,ob,j2,e1,?_⟩
  have hl':sc.names.lookup x=some .cell:=jH k4 j3
  rw [qCn (by rw [c7,hl']; intro q; cases q) k6] at d1
  have hr:=wI x ps ha
  revert d1 hr
  cases (ps.zip args).lookup x with
  | none=>cases (ps.zip cargs).lookup x with
   | none=>exact fun d1 _=>.nocell d1
   | some _=>exact fun _ q=>q.elim
  | some v=>cases (ps.zip cargs).lookup x with
   | none=>exact fun _ q=>q.elim
   | some c=>exact fun d1 q=>.cell d1 (VR.mono wl (Nat.zero_le _) q)
 have tabAt:OR (W0 T L fz) (qK (ps.zip args) sc.names (H0 q) []).1.nxt (.tab q) (tabObj #[]):=.tab ⟨trivial,fun pos cv e=>by cases e⟩
 refine ⟨⟨hk,fun k _=>?_,fun k h=>?_,fun k _ q=>?_,fun k _=>?_,fun i j _ _ q=>?_,fun k o h=>?_,fun a c h=>⟨hk a c (hfz a c h),fun q=>?_⟩,fun a h=>?_,hg,ho,(fun e ob q=>by rw [hp] at q; cases q),⟨by show 0 < (qK (ps.zip args) sc.names (H0 q) []).1.nxt; lia,hPT.symm⟩⟩,⟨by rw [c1]; exact k1,c4,c5,⟨_,by rw [c2]; exact hn,fun y v h=>?_⟩,fun y k h=>?_,fun k q' h=>?_⟩,?_⟩
 ·by_cases h0:k=0
  ·subst h0; rw [r0]; exact hT
  ·rw [rs k h0]; exact big _ (by lia)
 ·by_cases h0:k=0
  ·subst h0; rw [r0]; exact ⟨_,hT'⟩
  ·obtain ⟨o,ob,_,e,_⟩:=cellAt k h0 h; exact ⟨ob,e⟩
 ·have q':(W0 T L fz).ρ k=L:=by simpa using q
  by_cases h0:k=0
  ·subst h0; rw [r0] at q'; lia
  ·rw [rs k h0] at q'; lia
 ·cases hq:fz ((W0 T L fz).ρ k) with
  | none=>exact hq
  | some o =>
   have:=hfz _ _ hq
   by_cases h0:k=0
   ·subst h0; rw [r0,hT] at this; cases this
   ·rw [rs k h0,big _ (by lia)] at this; cases this
 ·by_cases hi:i=0 <;> by_cases hj:j=0
  ·rw [hi,hj]
  ·subst hi; rw [r0,rs j hj] at q; lia
  ·subst hj; rw [r0,rs i hi] at q; lia
  ·rw [rs i hi,rs j hj] at q; lia
 ·have hlt:k < (qK (ps.zip args) sc.names (H0 q) []).1.nxt:=by
   refine Nat.not_le.mp fun hle=>?_
   have h':(qK (ps.zip args) sc.names (H0 q) []).1.obj k=some o:=h
   rw [i1 k hle] at h'; cases h'
  have h':(qK (ps.zip args) sc.names (H0 q) []).1.obj k=some o:=h
  by_cases h0:k=0
  ·subst h0
   rw [o0] at h'; cases h'
   exact ⟨hlt,_,by rw [r0]; exact hT',tabAt⟩
  ·obtain ⟨o',ob,e0,e1,e2⟩:=cellAt k h0 hlt
   rw [e0] at h'; cases h'
   exact ⟨hlt,ob,e1,e2⟩
 ·have:a=L:=by simpa using q
  subst this
  have:=hfz a c h
  rw [big a (Nat.le_refl _)] at this; cases this
 ·have:a=L:=by simpa using h
  subst this
  obtain ⟨o,es,ep,e1,e2,_⟩:=hn
  exact ⟨big a (Nat.le_refl _),o,e1,fun vs q=>by rw [e2] at q; cases q⟩
 ·obtain ⟨p1,p2⟩:=vQ (names:=sc.names) h
  have hr:=wI y ps ha
  rw [p2] at hr
  refine ⟨by rw [c7]; exact p1,?_⟩
  cases h1:(ps.zip cargs).lookup y with
  | none=>rw [h1] at hr; exact hr.elim
  | some c =>
   rw [h1] at hr
   refine ⟨c,?_,VR.mono wl (Nat.zero_le _) hr⟩
   rw [qCm k6,c7,p1,h1]
   rfl
 ·obtain ⟨p,q'⟩:=i3 y k h
  refine ⟨p,fun _=>?_⟩
  rw [c3,q']
  have h1:=qCj (bv:=ps.zip args) (n:=1) sc.names (H0 q) [] (Nat.le_refl _) (fun x k h=>by cases h) y k h
  rw [rs' k (by lia)]
 ·cases h
  exact ⟨by show 0 < (qK (ps.zip args) sc.names (H0 q) []).1.nxt; lia,hq,cd,hcd,by rw [r0]; exact hCd⟩
 ·refine ⟨fun y h=>by rw [c7]; exact h,fun y h=>by rw [c7]; exact h,fun y h=>by rw [c7]; exact h,fun y h=>by rw [c7]; exact h,fun y h=>?_⟩
  rw [c7] at h
  rw [c3]
  rcases h with h | h
  ·exact Option.isSome_iff_exists.mp (vA (n:=L+1) (acc:=[]) (.inr (zP h)))
  ·have:=List.all_eq_true.mp k5 _ (zP h)
   simp at this
theorem zEh {P:Par} {sc:Scope} {ps:List Str} {args:List V} {cargs:List Value} {cenv:Env} {s:Shared} {T L cd:Nat} {q:Str} {fz:Nat→Option Obj} {cx:Sx} {b:S} {body:List Stmt} {v:V} {σ':St} {Q:Flow→Shared→Prop} {E:Value→Shared→Prop}
  (hsh:wS sc ps=true) (c1:cenv.scope=sc) (c2:cenv.locals=L) (c3:cenv.cells=cellsFrom (L+1) sc.names []) (c4:cenv.globals=mainGlobals) (c5:cenv.builtins=builtinsNs) (c6:cenv.frame=some L) (hL:P.B.objs.size=L) (hTL:T < L)
  (hn:s.heap.Ns L (bindL cenv.kindOf (ps.zip cargs) fun _=>none)) (hk:∀ b o,P.B.get? b=some o→s.heap.get? b=some o)
  (hc:∀ x c,(x,c)∈cellsFrom (L+1) sc.names []→s.heap.IsCell c (bindC cenv.kindOf (ps.zip cargs) (fun _=>none) x))
  (hfz:∀ a o,fz a=some o→P.B.get? a=some o) (ha:VRs (W0 T L fz) 0 args cargs) (hg:s.gens = #[]) (ho:s.os=P.os)
  (hT:P.B.get? T=none) (hT':s.heap.get? T=some (tabObj #[])) (hcd:cenv.code=.ref cd) (hCd:CodeHd P.B cd T) (hq:cenv.qual++Str.ofString "<lambda>" = q)
  (hp:P.ex=none) (hPT:P.T=T) (C:SxOk P cx) (hl5:cx.lvl≤20) (hb:TieS b sc (.l body)) (hex:ex b cx (qNe sc q (ps.zip args))=.ok (.ret v) σ') (htab:σ'.obj 0=some (.tab q))
  (hQ:∀ W c s' ps',VR W σ'.nxt v c→(∀ b o,P.B.get? b=some o→s'.heap.get? b=some o)→s'.heap.get? T=some (tabObj ps')→s'.os=P.os→s'.gens = #[]→Q (.ret c) s') :
  wpAny P.M (callerA.deeper cenv) (execs body cenv) Q E s:=by
 obtain ⟨I,Lc,Sc⟩:=qTo hsh c1 c2 c3 c4 c5 hL hTL hn hk hc hfz ha hg ho hp hPT hT hT' hcd hCd hq
 have hshk:sc.kind=.function:=Lc.kind ▸ c1 ▸ rfl
 have F:FmS P cx.lvl [L] (callerA.deeper cenv) cenv:=by
  refine ⟨⟨by rw [c2]; exact .head _,.inl ⟨hp,rfl⟩,?_,?_,[cenv],rfl,fun e he=>?_⟩,⟨[],rfl⟩,by rw [c2]; exact c6⟩
  ·show 4+3+20 * cx.lvl+200 < cLine
   unfold cLine; lia
  ·show 1+claimMargin+1+10 * cx.lvl+100 < recursionLimit
   have:1+claimMargin+1+10 * 20+100 < recursionLimit:=by decide
   lia
  ·have:e=cenv:=by simpa using he
   subst this
   exact ⟨by rw [c1,hshk]; decide,L,c6,.head _⟩
 refine wpAny_mono (qTq hb cx C [L] _ cenv F Sc (W0 T L fz) _ s I Lc (by rw [hex]; intro q; cases q)) (fun f s' ⟨v',σ₂,W₂,e,st,hf⟩=>?_) (fun e s' h=>h.elim)
 rw [hex] at e
 cases e
 obtain ⟨_,ob,h1,h2⟩:=st.inv.obj 0 _ htab
 have h0:W₂.ρ 0=T:=st.nx.wle.ρ 0 (by
  show 0 < (qK (ps.zip args) sc.names (H0 q) []).1.nxt
  have:=(qFw (bv:=ps.zip args) (L:=0) sc.names [] [] (H0 q) (fun k hk=>by
   have hk':1≤k:=hk
   show (if k=0 then _ else _)=_
   rw [if_neg (by lia)]) (fun x k h=>by cases h)).2.1
  have h1:1≤(qK (ps.zip args) sc.names (H0 q) []).1.nxt:=this
  lia)
 rw [h0] at h1
 cases h2 with
 | tab hR =>
 cases hf with
 | ret hv=>exact hQ W₂ _ s' _ hv st.inv.keep h1 st.inv.os st.inv.gens
end Mine.Lake
end
noncomputable section
namespace Mine.Lake.L09
open PySem PySem.W PyProof.Rows Mine.Lake MineTop
noncomputable def qFh:S:=(.seq (.setA (.var "self") "indentwidth" (.var "indentwidth")) (.seq (.setA (.var "self") "tabwidth" (.var "tabwidth")) .nil))
noncomputable def qNi:Scope:={ kind:=.function,names:=[("self", .local),("indentwidth", .local),("tabwidth", .local)],isGenerator:=false,isCoroutine:=false }
theorem zIc (p:Params):zM (K p) 155 qNi ["self", "indentwidth", "tabwidth"] qFh :=
 ⟨_,⟨_,⟨_,rfl,rfl⟩,rfl,rfl,rfl,rfl,rfl,⟨_,_,_,_,rfl,rfl,rfl,rfl⟩,by decide +kernel,fun cargs h=>by obtain ⟨a,b,c,rfl⟩:=zNd h; rfl⟩,by (repeat' first | exact rfl | decide +kernel | exact qU | exact (fun _ _ _=>rfl) | exact ⟨_,_,rfl⟩ | constructor)⟩
noncomputable def wN:S:=(.seq (.assert (.or (.cmp .Eq (.call (.glob "len") (.cons (.var "s") .nil)) (.int 0)) (.cmp .Eq (.idx (.var "s") (.neg (.int 1))) (.str "\n")))) (.seq (.setA (.var "self") "code" (.var "s")) (.seq (.setA (.var "self") "study_level" (.int 0)) .nil)))
noncomputable def yB:Scope:={ kind:=.function,names:=[("self", .local),("s", .local),("len", .globalImplicit)],isGenerator:=false,isCoroutine:=false }
theorem zIb (p:Params):zM (K p) 162 yB ["self", "s"] wN :=
 ⟨_,⟨_,⟨_,rfl,rfl⟩,rfl,rfl,rfl,rfl,rfl,⟨_,_,_,_,rfl,rfl,rfl,rfl⟩,by decide +kernel,fun cargs h=>by obtain ⟨a,b,rfl⟩:=qQt h; rfl⟩,by (repeat' first | exact rfl | decide +kernel | exact qU | exact (fun _ _ _=>rfl) | exact ⟨_,_,rfl⟩ | constructor)⟩
noncomputable def x07:XRow:={ f:=162,ps:=["self", "s"],e:=(.or (.cmp .Eq (.call (.glob "len") (.cons (.var "s") .nil)) (.int 0)) (.cmp .Eq (.idx (.var "s") (.neg (.int 1))) (.str "\n"))) }
theorem zGy (p:Params):XOk (K p) x07:=⟨yB,_,_,_,⟨_,⟨_,rfl,rfl⟩,rfl,rfl,rfl,rfl,rfl,⟨_,_,_,_,rfl,rfl,rfl,rfl⟩,by decide +kernel,fun cargs h=>by obtain ⟨a,b,rfl⟩:=qQt h; rfl⟩,by unfold x07; exact (by (repeat' first | exact rfl | decide +kernel | exact qU | exact (fun _ _ _=>rfl) | exact ⟨_,_,rfl⟩ | constructor)),by decide +kernel⟩
noncomputable def qFp:S:=(.seq (.asg2 "code" "pos" (.tup (.cons (.attr (.var "self") "code") (.cons .none .nil)))) (.seq (.asg "limit" (.call (.glob "len") (.cons (.var "code") .nil))) (.seq (.each "tries" (.call (.glob "range") (.cons (.int 5) .nil)) (.seq (.asg "i" (.meth (.var "code") "rfind" (.cons (.str ":\n") (.cons (.int 0) (.cons (.var "limit") .nil))))) (.seq (.ite (.cmp .Lt (.var "i") (.int 0)) (.seq .brk .nil) .nil) (.seq (.asg "i" (.bin .Add (.meth (.var "code") "rfind" (.cons (.str "\n") (.cons (.int 0) (.cons (.var "i") .nil)))) (.int 1))) (.seq (.asg "m" (.call (.glob "_synchre") (.cons (.var "code") (.cons (.var "i") (.cons (.var "limit") .nil))))) (.seq (.ite (.and (.var "m") (.not (.call (.var "is_char_in_string") (.cons (.meth (.var "m") "start" .nil) .nil)))) (.seq (.asg "pos" (.meth (.var "m") "start" .nil)) (.seq .brk .nil)) .nil) (.seq (.asg "limit" (.var "i")) .nil))))))) (.seq (.ite (.cmp .Is (.var "pos") .none) (.seq (.asg "m" (.call (.glob "_synchre") (.cons (.var "code") .nil))) (.seq (.ite (.and (.var "m") (.not (.call (.var "is_char_in_string") (.cons (.meth (.var "m") "start" .nil) .nil)))) (.seq (.asg "pos" (.meth (.var "m") "start" .nil)) .nil) .nil) (.seq (.ret (.var "pos")) .nil))) .nil) (.seq (.asg "i" (.bin .Add (.var "pos") (.int 1))) (.seq (.loop 1000 (.named "m" (.call (.glob "_synchre") (.cons (.var "code") (.cons (.var "i") .nil)))) (.seq (.asg2 "s" "i" (.meth (.var "m") "span" .nil)) (.seq (.ite (.not (.call (.var "is_char_in_string") (.cons (.var "s") .nil))) (.seq (.asg "pos" (.var "s")) .nil) .nil) .nil)) .nil) (.seq (.ret (.var "pos")) .nil)))))))
noncomputable def qNo:Scope:={ kind:=.function,names:=[("self", .local),("is_char_in_string", .local),("code", .local),("pos", .local),("limit", .local),("tries", .local),("i", .local),("m", .local),("s", .local),("len", .globalImplicit),("range", .globalImplicit),("_synchre", .globalImplicit)],isGenerator:=false,isCoroutine:=false }
theorem zIa (p:Params):zM (K p) 169 qNo ["self", "is_char_in_string"] qFp :=
 ⟨_,⟨_,⟨_,rfl,rfl⟩,rfl,rfl,rfl,rfl,rfl,⟨_,_,_,_,rfl,rfl,rfl,rfl⟩,by decide +kernel,fun cargs h=>by obtain ⟨a,b,rfl⟩:=qQt h; rfl⟩,by (repeat' first | exact rfl | decide +kernel | exact qU | exact (fun _ _ _=>rfl) | exact ⟨_,_,rfl⟩ | constructor)⟩
noncomputable def qAr:S:=(.seq (.assert (.or (.cmp .Eq (.var "lo") (.int 0)) (.cmp .Eq (.idx (.attr (.var "self") "code") (.bin .Sub (.var "lo") (.int 1))) (.str "\n")))) (.seq (.ite (.cmp .Gt (.var "lo") (.int 0)) (.seq (.setA (.var "self") "code" (.slc (.attr (.var "self") "code") (.var "lo") .none)) .nil) .nil) .nil))
noncomputable def qHd:Scope:={ kind:=.function,names:=[("self", .local),("lo", .local)],isGenerator:=false,isCoroutine:=false }
theorem zHz (p:Params):zM (K p) 176 qHd ["self", "lo"] qAr :=
 ⟨_,⟨_,⟨_,rfl,rfl⟩,rfl,rfl,rfl,rfl,rfl,⟨_,_,_,_,rfl,rfl,rfl,rfl⟩,by decide +kernel,fun cargs h=>by obtain ⟨a,b,rfl⟩:=qQt h; rfl⟩,by (repeat' first | exact rfl | decide +kernel | exact qU | exact (fun _ _ _=>rfl) | exact ⟨_,_,rfl⟩ | constructor)⟩
noncomputable def kG:S:=(.seq (.ite (.cmp .GtE (.attr (.var "self") "study_level") (.int 1)) (.seq .ret0 .nil) .nil) (.seq (.setA (.var "self") "study_level" (.int 1)) (.seq (.asg "code" (.attr (.var "self") "code")) (.sq "code" "trans" [("xxxxxxxx", "x"),("xxxx", "x"),("xx", "x"),("xx", "x"),("\nx", "\n")] (.seq (.asg "continuation" (.glob "C_NONE")) (.seq (.asgs "level" "lno" (.int 0)) (.seq (.ownA (.var "self") "goodlines" "goodlines" (.list (.cons (.int 0) .nil))) (.seq (.asg "push_good" (.attr (.var "goodlines") "append")) (.seq (.asg2 "i" "n" (.tup (.cons (.int 0) (.cons (.call (.glob "len") (.cons (.var "code") .nil)) .nil)))) (.seq (.loop 1000 (.cmp .Lt (.var "i") (.var "n")) (.seq (.asg "ch" (.idx (.var "code") (.var "i"))) (.seq (.asg "i" (.bin .Add (.var "i") (.int 1))) (.seq (.ite (.cmp .Eq (.var "ch") (.str "x")) (.seq .cont .nil) .nil) (.seq (.ite (.cmp .Eq (.var "ch") (.str "\n")) (.seq (.asg "lno" (.bin .Add (.var "lno") (.int 1))) (.seq (.ite (.cmp .Eq (.var "level") (.int 0)) (.seq (.expr (.call (.var "push_good") (.cons (.var "lno") .nil))) .nil) .nil) (.seq .cont .nil))) .nil) (.seq (.ite (.cmp .Eq (.var "ch") (.str "(")) (.seq (.asg "level" (.bin .Add (.var "level") (.int 1))) (.seq .cont .nil)) .nil) (.seq (.ite (.cmp .Eq (.var "ch") (.str ")")) (.seq (.ite (.var "level") (.seq (.asg "level" (.bin .Sub (.var "level") (.int 1))) .nil) .nil) (.seq .cont .nil)) .nil) (.seq (.ite (.or (.cmp .Eq (.var "ch") (.str "\"")) (.cmp .Eq (.var "ch") (.str "'"))) (.seq (.asg "quote" (.var "ch")) (.seq (.ite (.cmp .Eq (.slc (.var "code") (.bin .Sub (.var "i") (.int 1)) (.bin .Add (.var "i") (.int 2))) (.bin .Mult (.var "quote") (.int 3))) (.seq (.asg "quote" (.bin .Mult (.var "quote") (.int 3))) .nil) .nil) (.seq (.asg "firstlno" (.var "lno")) (.seq (.asg "w" (.bin .Sub (.call (.glob "len") (.cons (.var "quote") .nil)) (.int 1))) (.seq (.asg "i" (.bin .Add (.var "i") (.var "w"))) (.seq (.loop 1000 (.cmp .Lt (.var "i") (.var "n")) (.seq (.asg "ch" (.idx (.var "code") (.var "i"))) (.seq (.asg "i" (.bin .Add (.var "i") (.int 1))) (.seq (.ite (.cmp .Eq (.var "ch") (.str "x")) (.seq .cont .nil) .nil) (.seq (.ite (.cmp .Eq (.slc (.var "code") (.bin .Sub (.var "i") (.int 1)) (.bin .Add (.var "i") (.var "w"))) (.var "quote")) (.seq (.asg "i" (.bin .Add (.var "i") (.var "w"))) (.seq .brk .nil)) .nil) (.seq (.ite (.cmp .Eq (.var "ch") (.str "\n")) (.seq (.asg "lno" (.bin .Add (.var "lno") (.int 1))) (.seq (.ite (.cmp .Eq (.var "w") (.int 0)) (.seq (.ite (.cmp .Eq (.var "level") (.int 0)) (.seq (.expr (.call (.var "push_good") (.cons (.var "lno") .nil))) .nil) .nil) (.seq .brk .nil)) .nil) (.seq .cont .nil))) .nil) (.seq (.ite (.cmp .Eq (.var "ch") (.str "\\")) (.seq (.assert (.cmp .Lt (.var "i") (.var "n"))) (.seq (.ite (.cmp .Eq (.idx (.var "code") (.var "i")) (.str "\n")) (.seq (.asg "lno" (.bin .Add (.var "lno") (.int 1))) .nil) .nil) (.seq (.asg "i" (.bin .Add (.var "i") (.int 1))) (.seq .cont .nil)))) .nil) .nil)))))) (.seq (.ite (.cmp .Eq (.bin .Sub (.var "lno") (.int 1)) (.var "firstlno")) (.seq (.asg "continuation" (.glob "C_STRING_FIRST_LINE")) .nil) (.seq (.asg "continuation" (.glob "C_STRING_NEXT_LINES")) .nil)) .nil)) (.seq .cont .nil))))))) .nil) (.seq (.ite (.cmp .Eq (.var "ch") (.str "#")) (.seq (.asg "i" (.meth (.var "code") "find" (.cons (.str "\n") (.cons (.var "i") .nil)))) (.seq (.assert (.cmp .GtE (.var "i") (.int 0))) (.seq .cont .nil))) .nil) (.seq (.assert (.cmp .Eq (.var "ch") (.str "\\"))) (.seq (.assert (.cmp .Lt (.var "i") (.var "n"))) (.seq (.ite (.cmp .Eq (.idx (.var "code") (.var "i")) (.str "\n")) (.seq (.asg "lno" (.bin .Add (.var "lno") (.int 1))) (.seq (.ite (.cmp .Eq (.bin .Add (.var "i") (.int 1)) (.var "n")) (.seq (.asg "continuation" (.glob "C_BACKSLASH")) .nil) .nil) .nil)) .nil) (.seq (.asg "i" (.bin .Add (.var "i") (.int 1))) .nil)))))))))))) .nil) (.seq (.ite (.and (.cmp .NotEq (.var "continuation") (.glob "C_STRING_FIRST_LINE")) (.and (.cmp .NotEq (.var "continuation") (.glob "C_STRING_NEXT_LINES")) (.cmp .Gt (.var "level") (.int 0)))) (.seq (.asg "continuation" (.glob "C_BRACKET")) .nil) .nil) (.seq (.setA (.var "self") "continuation" (.var "continuation")) (.seq (.assert (.cmp .Eq (.cmp .Eq (.var "continuation") (.glob "C_NONE")) (.cmp .Eq (.idx (.var "goodlines") (.neg (.int 1))) (.var "lno")))) (.seq (.ite (.cmp .NotEq (.idx (.var "goodlines") (.neg (.int 1))) (.var "lno")) (.seq (.expr (.call (.var "push_good") (.cons (.var "lno") .nil))) .nil) .nil) .nil))))))))))))))
noncomputable def qDl:Scope:={ kind:=.function,names:=[("self", .local),("code", .local),("continuation", .local),("level", .local),("lno", .local),("goodlines", .local),("push_good", .local),("i", .local),("n", .local),("ch", .local),("quote", .local),("firstlno", .local),("w", .local),("trans", .globalImplicit),("C_NONE", .globalImplicit),("len", .globalImplicit),("C_STRING_FIRST_LINE", .globalImplicit),("C_STRING_NEXT_LINES", .globalImplicit),("C_BACKSLASH", .globalImplicit),("C_BRACKET", .globalImplicit)],isGenerator:=false,isCoroutine:=false }
theorem zHy (p:Params):zM (K p) 183 qDl ["self"] kG :=
 ⟨_,⟨_,⟨_,rfl,rfl⟩,rfl,rfl,rfl,rfl,rfl,⟨_,_,_,_,rfl,rfl,rfl,rfl⟩,by decide +kernel,fun cargs h=>by obtain ⟨a,rfl⟩:=qCy h; rfl⟩,by (repeat' first | exact rfl | decide +kernel | exact qU | exact (fun _ _ _=>rfl) | exact ⟨_,_,rfl⟩ | constructor)⟩
noncomputable def uP:S:=(.seq (.expr (.meth (.var "self") "_study1" .nil)) (.seq (.ret (.attr (.var "self") "continuation")) .nil))
noncomputable def qNl:Scope:={ kind:=.function,names:=[("self", .local)],isGenerator:=false,isCoroutine:=false }
theorem zHx (p:Params):zM (K p) 190 qNl ["self"] uP :=
 ⟨_,⟨_,⟨_,rfl,rfl⟩,rfl,rfl,rfl,rfl,rfl,⟨_,_,_,_,rfl,rfl,rfl,rfl⟩,by decide +kernel,fun cargs h=>by obtain ⟨a,rfl⟩:=qCy h; rfl⟩,by (repeat' first | exact rfl | decide +kernel | exact qU | exact (fun _ _ _=>rfl) | exact ⟨_,_,rfl⟩ | constructor)⟩
noncomputable def jS:S:=(.seq (.ite (.cmp .GtE (.attr (.var "self") "study_level") (.int 2)) (.seq .ret0 .nil) .nil) (.seq (.expr (.meth (.var "self") "_study1" .nil)) (.seq (.setA (.var "self") "study_level" (.int 2)) (.seq (.asg2 "code" "goodlines" (.tup (.cons (.attr (.var "self") "code") (.cons (.attr (.var "self") "goodlines") .nil)))) (.seq (.asg "i" (.bin .Sub (.call (.glob "len") (.cons (.var "goodlines") .nil)) (.int 1))) (.seq (.asg "p" (.call (.glob "len") (.cons (.var "code") .nil))) (.seq (.loop 1000 (.var "i") (.seq (.assert (.var "p")) (.seq (.asg "q" (.var "p")) (.seq (.each "nothing" (.call (.glob "range") (.cons (.idx (.var "goodlines") (.bin .Sub (.var "i") (.int 1))) (.cons (.idx (.var "goodlines") (.var "i")) .nil))) (.seq (.asg "p" (.bin .Add (.meth (.var "code") "rfind" (.cons (.str "\n") (.cons (.int 0) (.cons (.bin .Sub (.var "p") (.int 1)) .nil)))) (.int 1))) .nil)) (.seq (.ite (.call (.glob "_junkre") (.cons (.var "code") (.cons (.var "p") .nil))) (.seq (.asg "i" (.bin .Sub (.var "i") (.int 1))) .nil) (.seq .brk .nil)) .nil)))) .nil) (.seq (.ite (.cmp .Eq (.var "i") (.int 0)) (.seq (.assert (.cmp .Eq (.var "p") (.int 0))) (.seq (.asg "q" (.var "p")) .nil)) .nil) (.seq (.setA2 (.var "self") "stmt_start" (.var "self") "stmt_end" (.tup (.cons (.var "p") (.cons (.var "q") .nil)))) (.seq (.asg "lastch" (.str "")) (.seq (.own "stack" (.list .nil)) (.seq (.asg "push_stack" (.attr (.var "stack") "append")) (.seq (.own "bracketing" (.list (.cons (.tup (.cons (.var "p") (.cons (.int 0) .nil))) .nil))) (.seq (.loop 1000 (.cmp .Lt (.var "p") (.var "q")) (.seq (.asg "m" (.call (.glob "_chew_ordinaryre") (.cons (.var "code") (.cons (.var "p") (.cons (.var "q") .nil))))) (.seq (.ite (.var "m") (.seq (.asg "newp" (.meth (.var "m") "end" .nil)) (.seq (.asg "i" (.bin .Sub (.var "newp") (.int 1))) (.seq (.loop 1000 (.and (.cmp .GtE (.var "i") (.var "p")) (.cmp .In (.idx (.var "code") (.var "i")) (.str " \t\n"))) (.seq (.asg "i" (.bin .Sub (.var "i") (.int 1))) .nil) .nil) (.seq (.ite (.cmp .GtE (.var "i") (.var "p")) (.seq (.asg "lastch" (.idx (.var "code") (.var "i"))) .nil) .nil) (.seq (.asg "p" (.var "newp")) (.seq (.ite (.cmp .GtE (.var "p") (.var "q")) (.seq .brk .nil) .nil) .nil)))))) .nil) (.seq (.asg "ch" (.idx (.var "code") (.var "p"))) (.seq (.ite (.cmp .In (.var "ch") (.str "([{")) (.seq (.expr (.call (.var "push_stack") (.cons (.var "p") .nil))) (.seq (.expr (.meth (.var "bracketing") "append" (.cons (.tup (.cons (.var "p") (.cons (.call (.glob "len") (.cons (.var "stack") .nil)) .nil))) .nil))) (.seq (.asg "lastch" (.var "ch")) (.seq (.asg "p" (.bin .Add (.var "p") (.int 1))) (.seq .cont .nil))))) .nil) (.seq (.ite (.cmp .In (.var "ch") (.str ")]}")) (.seq (.ite (.var "stack") (.seq (.delL "stack") .nil) .nil) (.seq (.asg "lastch" (.var "ch")) (.seq (.asg "p" (.bin .Add (.var "p") (.int 1))) (.seq (.expr (.meth (.var "bracketing") "append" (.cons (.tup (.cons (.var "p") (.cons (.call (.glob "len") (.cons (.var "stack") .nil)) .nil))) .nil))) (.seq .cont .nil))))) .nil) (.seq (.ite (.or (.cmp .Eq (.var "ch") (.str "\"")) (.cmp .Eq (.var "ch") (.str "'"))) (.seq (.expr (.meth (.var "bracketing") "append" (.cons (.tup (.cons (.var "p") (.cons (.bin .Add (.call (.glob "len") (.cons (.var "stack") .nil)) (.int 1)) .nil))) .nil))) (.seq (.asg "lastch" (.var "ch")) (.seq (.asg "p" (.meth (.call (.glob "_match_stringre") (.cons (.var "code") (.cons (.var "p") (.cons (.var "q") .nil)))) "end" .nil)) (.seq (.expr (.meth (.var "bracketing") "append" (.cons (.tup (.cons (.var "p") (.cons (.call (.glob "len") (.cons (.var "stack") .nil)) .nil))) .nil))) (.seq .cont .nil))))) .nil) (.seq (.ite (.cmp .Eq (.var "ch") (.str "#")) (.seq (.expr (.meth (.var "bracketing") "append" (.cons (.tup (.cons (.var "p") (.cons (.bin .Add (.call (.glob "len") (.cons (.var "stack") .nil)) (.int 1)) .nil))) .nil))) (.seq (.asg "p" (.bin .Add (.meth (.var "code") "find" (.cons (.str "\n") (.cons (.var "p") (.cons (.var "q") .nil)))) (.int 1))) (.seq (.assert (.cmp .Gt (.var "p") (.int 0))) (.seq (.expr (.meth (.var "bracketing") "append" (.cons (.tup (.cons (.var "p") (.cons (.call (.glob "len") (.cons (.var "stack") .nil)) .nil))) .nil))) (.seq .cont .nil))))) .nil) (.seq (.assert (.cmp .Eq (.var "ch") (.str "\\"))) (.seq (.asg "p" (.bin .Add (.var "p") (.int 1))) (.seq (.assert (.cmp .Lt (.var "p") (.var "q"))) (.seq (.ite (.cmp .NotEq (.idx (.var "code") (.var "p")) (.str "\n")) (.seq (.asg "lastch" (.bin .Add (.var "ch") (.idx (.var "code") (.var "p")))) .nil) .nil) (.seq (.asg "p" (.bin .Add (.var "p") (.int 1))) .nil)))))))))))) .nil) (.seq (.setA (.var "self") "lastch" (.var "lastch")) (.seq (.setA (.var "self") "lastopenbracketpos" (.ite (.var "stack") (.idx (.var "stack") (.neg (.int 1))) .none)) (.seq (.setA (.var "self") "stmt_bracketing" (.call (.glob "tuple") (.cons (.var "bracketing") .nil))) .nil)))))))))))))))))
noncomputable def qDj:Scope:={ kind:=.function,names:=[("self", .local),("code", .local),("goodlines", .local),("i", .local),("p", .local),("q", .local),("nothing", .local),("lastch", .local),("stack", .local),("push_stack", .local),("bracketing", .local),("m", .local),("newp", .local),("ch", .local),("len", .globalImplicit),("range", .globalImplicit),("_junkre", .globalImplicit),("_chew_ordinaryre", .globalImplicit),("_match_stringre", .globalImplicit),("tuple", .globalImplicit)],isGenerator:=false,isCoroutine:=false }
theorem zHw (p:Params):zM (K p) 197 qDj ["self"] jS :=
 ⟨_,⟨_,⟨_,rfl,rfl⟩,rfl,rfl,rfl,rfl,rfl,⟨_,_,_,_,rfl,rfl,rfl,rfl⟩,by decide +kernel,fun cargs h=>by obtain ⟨a,rfl⟩:=qCy h; rfl⟩,by (repeat' first | exact rfl | decide +kernel | exact qU | exact (fun _ _ _=>rfl) | exact ⟨_,_,rfl⟩ | constructor)⟩
noncomputable def vV:S:=(.seq (.expr (.meth (.var "self") "_study2" .nil)) (.seq (.ret (.cmp .Eq (.attr (.var "self") "lastch") (.str ":"))) .nil))
noncomputable def qDr:Scope:={ kind:=.function,names:=[("self", .local)],isGenerator:=false,isCoroutine:=false }
theorem zHv (p:Params):zM (K p) 232 qDr ["self"] vV :=
 ⟨_,⟨_,⟨_,rfl,rfl⟩,rfl,rfl,rfl,rfl,rfl,⟨_,_,_,_,rfl,rfl,rfl,rfl⟩,by decide +kernel,fun cargs h=>by obtain ⟨a,rfl⟩:=qCy h; rfl⟩,by (repeat' first | exact rfl | decide +kernel | exact qU | exact (fun _ _ _=>rfl) | exact ⟨_,_,rfl⟩ | constructor)⟩
noncomputable def qFx:S:=(.seq (.expr (.meth (.var "self") "_study2" .nil)) (.seq (.ret (.attr (.var "self") "stmt_bracketing")) .nil))
noncomputable def qNy:Scope:={ kind:=.function,names:=[("self", .local)],isGenerator:=false,isCoroutine:=false }
theorem zHu (p:Params):zM (K p) 246 qNy ["self"] qFx :=
 ⟨_,⟨_,⟨_,rfl,rfl⟩,rfl,rfl,rfl,rfl,rfl,⟨_,_,_,_,rfl,rfl,rfl,rfl⟩,by decide +kernel,fun cargs h=>by obtain ⟨a,rfl⟩:=qCy h; rfl⟩,by (repeat' first | exact rfl | decide +kernel | exact qU | exact (fun _ _ _=>rfl) | exact ⟨_,_,rfl⟩ | constructor)⟩
noncomputable def qFo:S:=(.seq (.ret (.list (.cons (.meth (.var "parser") "get_continuation_type" .nil) (.cons (.meth (.var "parser") "is_block_opener" .nil) (.cons (.meth (.var "parser") "get_last_stmt_bracketing" .nil) (.cons (.attr (.var "parser") "goodlines") .nil)))))) .nil)
noncomputable def qNn:Scope:={ kind:=.function,names:=[("parser", .local)],isGenerator:=false,isCoroutine:=false }
theorem zHt (p:Params):zM (K p) 260 qNn ["parser"] qFo :=
 ⟨_,⟨_,⟨_,rfl,rfl⟩,rfl,rfl,rfl,rfl,rfl,⟨_,_,_,_,rfl,rfl,rfl,rfl⟩,by decide +kernel,fun cargs h=>by obtain ⟨a,rfl⟩:=qCy h; rfl⟩,by (repeat' first | exact rfl | decide +kernel | exact qU | exact (fun _ _ _=>rfl) | exact ⟨_,_,rfl⟩ | constructor)⟩
noncomputable def qAw:S:=(.seq (.asg "parser" (.call (.glob "Parser") (.cons (.int 4) (.cons (.int 8) .nil)))) (.seq (.expr (.meth (.var "parser") "set_code" (.cons (.var "code") .nil))) (.seq (.ret (.var "parser")) .nil)))
noncomputable def qHz:Scope:={ kind:=.function,names:=[("code", .local),("parser", .local),("Parser", .globalImplicit)],isGenerator:=false,isCoroutine:=false }
theorem zHs (p:Params):zM (K p) 267 qHz ["code"] qAw :=
 ⟨_,⟨_,⟨_,rfl,rfl⟩,rfl,rfl,rfl,rfl,rfl,⟨_,_,_,_,rfl,rfl,rfl,rfl⟩,by decide +kernel,fun cargs h=>by obtain ⟨a,rfl⟩:=qCy h; rfl⟩,by (repeat' first | exact rfl | decide +kernel | exact qU | exact (fun _ _ _=>rfl) | exact ⟨_,_,rfl⟩ | constructor)⟩
noncomputable def qMg:S:=(.seq (.ite (.cmp .In (.str "'''") (.var "code")) (.seq (.ret (.list (.cons (.glob "C_STRING_NEXT_LINES") (.cons (.bool false) .nil)))) .nil) .nil) (.seq (.ite (.cmp .In (.str "(1,") (.var "code")) (.seq (.ret (.list (.cons (.glob "C_BRACKET") (.cons (.bool false) .nil)))) .nil) .nil) (.seq (.ite (.cmp .In (.str "\\") (.var "code")) (.seq (.ret (.list (.cons (.glob "C_BACKSLASH") (.cons (.bool false) .nil)))) .nil) .nil) (.seq (.ret (.list (.cons (.glob "C_NONE") (.cons (.cmp .Eq (.slc (.var "code") (.neg (.int 2)) .none) (.str ":\n")) .nil)))) .nil))))
noncomputable def qSx:Scope:={ kind:=.function,names:=[("code", .local),("C_STRING_NEXT_LINES", .globalImplicit),("C_BRACKET", .globalImplicit),("C_BACKSLASH", .globalImplicit),("C_NONE", .globalImplicit)],isGenerator:=false,isCoroutine:=false }
theorem zHr (p:Params):zM (K p) 274 qSx ["code"] qMg :=
 ⟨_,⟨_,⟨_,rfl,rfl⟩,rfl,rfl,rfl,rfl,rfl,⟨_,_,_,_,rfl,rfl,rfl,rfl⟩,by decide +kernel,fun cargs h=>by obtain ⟨a,rfl⟩:=qCy h; rfl⟩,by (repeat' first | exact rfl | decide +kernel | exact qU | exact (fun _ _ _=>rfl) | exact ⟨_,_,rfl⟩ | constructor)⟩
noncomputable def wQ:S:=(.seq (.own "places" (.comp (.call (.glob "sum") (.cons (.comp (.bin .Add (.call (.glob "len") (.cons (.var "row") .nil)) (.int 1)) "row" (.slc (.cv "rows") .none (.var "k")) (.bool true)) .nil)) "k" (.call (.glob "range") (.cons (.call (.glob "len") (.cons (.cv "rows") .nil)) .nil)) (.cmp .In (.idx (.cv "rows") (.var "k")) (.list (.cons (.str "def f:") (.cons (.str "  return (1,") (.cons (.str "try:") (.cons (.str "else") .nil)))))))) (.seq (.ret (.ite (.and (.cmp .NotEq (.var "places") (.list .nil)) (.cmp .GtE (.idx (.var "places") (.int 0)) (.var "bar"))) (.idx (.var "places") (.neg (.int 1))) .none)) .nil))
noncomputable def place_sc:Scope:={ kind:=.function,names:=[("rows", .cell),("bar", .local),("places", .local),("range", .globalImplicit),("len", .globalImplicit)],isGenerator:=false,isCoroutine:=false,more:=[("fast", .str "rows"),("fast", .str "bar"),("fast", .str "k"),("fast", .str "row"),("fast", .str "places")] }
theorem zHq (p:Params):zM (K p) 279 place_sc ["rows", "bar"] wQ :=
 ⟨_,⟨_,⟨_,rfl,rfl⟩,rfl,rfl,rfl,rfl,rfl,⟨_,_,_,_,rfl,rfl,rfl,rfl⟩,by decide +kernel,fun cargs h=>by obtain ⟨a,b,rfl⟩:=qQt h; rfl⟩,by (repeat' first | exact rfl | decide +kernel | exact qU | exact (fun _ _ _=>rfl) | exact ⟨_,_,rfl⟩ | constructor)⟩
noncomputable def qNd:S:=(.seq (.asg "texts" (.list (.cons (.str "def f:\n  return (1,\n") (.cons (.str "x = '''\ntry:\n") (.cons (.str "a\nif b:\n") (.cons (.str "") (.cons (.str "y = \\\n") (.cons (.str "else\n(')')\n\n#c\n") .nil)))))))) (.seq (.asg "bad" (.list (.cons (.str "a") (.cons (.str "\n ") (.cons (.str "x:\n\r") (.cons (.str ":") .nil)))))) (.seq (.asg "code" (.idx (.var "texts") (.int 0))) (.seq (.asg "kept" .none) (.seq (.asg "parser" (.call (.glob "_law_fresh") (.cons (.var "code") .nil))) (.seq (.each "x" (.bin .Add (.bin .Add (.list (.cons (.int 2) .nil)) (.or (.slc (.var "script") .none (.int 20)) (.list (.cons (.int 6) (.cons (.int 2) (.cons (.int 3) (.cons (.int 10) .nil))))))) (.list (.cons (.int 2) .nil))) (.seq (.ite (.cmp .Eq (.bin .Mod (.var "x") (.int 5)) (.int 0)) (.seq (.asg "code" (.idx (.var "texts") (.bin .Mod (.bin .FloorDiv (.var "x") (.int 5)) (.int 6)))) (.seq (.asg "kept" .none) (.seq (.expr (.meth (.var "parser") "set_code" (.cons (.var "code") .nil))) .nil))) (.seq (.ite (.cmp .Eq (.bin .Mod (.var "x") (.int 5)) (.int 1)) (.seq (.own "rows" (.comp (.bin .Add (.var "row") (.str "\n")) "row" (.slc (.meth (.var "code") "split" (.cons (.str "\n") .nil)) .none (.neg (.int 1))) (.bool true))) (.seq (.asg "number" (.bin .Mod (.bin .FloorDiv (.var "x") (.int 5)) (.bin .Add (.call (.glob "len") (.cons (.var "rows") .nil)) (.int 1)))) (.seq (.expr (.meth (.var "parser") "set_lo" (.cons (.call (.glob "len") (.cons (.meth (.str "") "join" (.cons (.slc (.var "rows") .none (.var "number")) .nil)) .nil)) .nil))) (.seq (.asg "code" (.meth (.str "") "join" (.cons (.slc (.var "rows") (.var "number") .none) .nil))) .nil)))) (.seq (.ite (.cmp .Eq (.bin .Mod (.var "x") (.int 5)) (.int 2)) (.seq (.ite (.cmp .Is (.var "kept") .none) (.seq (.asg "kept" (.call (.glob "_law_four") (.cons (.call (.glob "_law_fresh") (.cons (.var "code") .nil)) .nil))) (.seq (.ite (.cmp .NotEq (.slc (.var "kept") .none (.int 2)) (.call (.glob "_law_two") (.cons (.var "code") .nil))) (.seq (.ret (.bool false)) .nil) .nil) .nil)) .nil) (.seq (.ite (.cmp .NotEq (.call (.glob "_law_four") (.cons (.var "parser") .nil)) (.var "kept")) (.seq (.ret (.bool false)) .nil) .nil) .nil)) (.seq (.ite (.cmp .Eq (.bin .Mod (.var "x") (.int 5)) (.int 3)) (.seq (.tryA (.var "parser") "set_code" (.cons (.idx (.var "bad") (.bin .Mod (.bin .FloorDiv (.var "x") (.int 5)) (.int 4))) .nil)) .nil) (.seq (.asgC "bar" (.bin .Mod (.bin .FloorDiv (.var "x") (.int 5)) (.int 2))) (.seq (.asg "told" (.meth (.var "parser") "find_good_parse_start" (.cons (.lam ["place"] (.cmp .Lt (.var "place") (.cv "bar"))) .nil))) (.seq (.ite (.cmp .NotEq (.var "told") (.call (.glob "_law_place") (.cons (.slc (.meth (.var "code") "split" (.cons (.str "\n") .nil)) .none (.neg (.int 1))) (.cons (.cv "bar") .nil)))) (.seq (.ret (.bool false)) .nil) .nil) .nil)))) .nil)) .nil)) .nil)) (.seq (.ite (.cmp .NotEq (.attr (.var "parser") "code") (.var "code")) (.seq (.ret (.bool false)) .nil) .nil) .nil))) (.seq (.ret (.bool true)) .nil)))))))
noncomputable def qWc:Scope:={ kind:=.function,names:=[("script", .local),("texts", .local),("bad", .local),("code", .local),("kept", .local),("parser", .local),("x", .local),("rows", .local),("number", .local),("told", .local),("bar", .cell),("_law_fresh", .globalImplicit),("len", .globalImplicit),("_law_four", .globalImplicit),("_law_two", .globalImplicit),("AssertionError", .globalImplicit),("_law_place", .globalImplicit)],isGenerator:=false,isCoroutine:=false,more:=[("fast", .str "script"),("fast", .str "texts"),("fast", .str "bad"),("fast", .str "code"),("fast", .str "kept"),("fast", .str "parser"),("fast", .str "x"),("fast", .str "row"),("fast", .str "rows"),("fast", .str "number"),("fast", .str "told"),("fast", .str "bar")] }
noncomputable def gl09T:List (Str×V):=[("len", .top (.builtin "len")),("sum", .top (.builtin "sum")),("range", .top (.type "range")),("tuple", .top (.type "tuple")),("AssertionError", .top (.type "AssertionError")),("Parser", .top (.ref 249)),("_law_four", .top (.ref 260)),("_law_fresh", .top (.ref 267)),("_law_two", .top (.ref 274)),("_law_place", .top (.ref 279)),("trans", .top (.ref 91)),("_synchre", .top (.ref 63)),("_junkre", .top (.ref 64)),("_match_stringre", .top (.ref 65)),("_chew_ordinaryre", .top (.ref 66)),("C_NONE", .int 0),("C_BACKSLASH", .int 1),("C_STRING_FIRST_LINE", .int 2),("C_STRING_NEXT_LINES", .int 3),("C_BRACKET", .int 4)]
noncomputable def zEs (x:Str):Option V:=gl09T.lookup x
noncomputable def qNg:Array Nat:=#[14,4,0,1,4294967295,24,11,0,4294967295,13,6,16,32,16,9,0,1,23,16,0,1,16,35,13,4,8,13,0,24,5,0,4294967295,2,1,18,16,10,1]
noncomputable def qAq:Array Nat:=#[14,9,4,1,4294967295,16,34,16,39,0,7,72,16,34,16,34,16,34,24,12,0,4294967295,13,7,21,16,34,16,92,0,1,23,37,0,4294967295,7,6,16,92,3,15,15,13,16,34,5,7,0,16,34,16,34,1,15,2,0,24,12,0,4294967295,13,7,21,16,34,16,92,0,1,18,23,9,0,1,16,34,16,34,16,34,18,15,186,56,16,34,24,17,0,4294967295,13,12,21,9,1024,4,268435456,0,0,0,0,0,0,1,23,24,0,4294967295,16,92,3,24,17,0,4294967295,13,12,21,9,1024,4,268435456,0,0,0,0,0,0,1,18,24,6,0,1,16,34,1,15,130,72,16,39,16,39,16,39,24,12,0,4294967295,13,7,21,16,39,16,92,0,1,23,37,0,4294967295,7,6,16,92,3,15,15,13,16,39,5,7,0,16,39,16,39,1,15,2,0,24,12,0,4294967295,13,7,21,16,39,16,92,0,1,18,23,9,0,1,16,39,16,39,16,39,18,15,58,56,16,39,24,17,0,4294967295,13,12,21,9,1024,128,268435456,0,0,0,0,0,0,1,23,24,0,4294967295,16,92,3,24,17,0,4294967295,13,12,21,9,1024,128,268435456,0,0,0,0,0,0,1,18,24,6,0,1,16,39,1,15,2,0,1]
noncomputable def qYg:Array Nat:=#[14,4,0,1,4294967295,24,17,1,4294967295,13,12,21,9,0,908,939524096,671088640,0,0,0,0,0,1,1]
noncomputable def jT (a:Addr):Option (Array Nat):=if a=64 then some qNg else if a=65 then some qAq else if a=66 then some qYg else none
noncomputable def tr12 (c:Nat):Nat:=if c=40∨c=123∨c=91 then 40 else if c=41∨c=125∨c=93 then 41 else if c=34∨c=39∨c=92∨c=10∨c=35 then c else 120
noncomputable def meths09:List (Str×Addr):=[("set_code", 162),("find_good_parse_start", 169),("set_lo", 176),("_study1", 183),("get_continuation_type", 190),("_study2", 197),("is_block_opener", 232),("get_last_stmt_bracketing", 246)]
noncomputable def flds09:List Str:=["code", "study_level", "indentwidth", "tabwidth", "goodlines", "continuation", "stmt_start", "stmt_end", "lastch", "lastopenbracketpos", "stmt_bracketing"]
noncomputable def G09 (p:Params):Prg:={ K:=K p,C:=249,meths:=meths09,flds:=flds09,gl:=zEs,tab:=91,tabC:=83,tabF:=tr12,rx:=jT,srch:=63 }
noncomputable def rows09:Rows:=[(155,qNi,["self", "indentwidth", "tabwidth"],qFh),(162,yB,["self", "s"],wN),(169,qNo,["self", "is_char_in_string"],qFp),(176,qHd,["self", "lo"],qAr),(183,qDl,["self"],kG),(190,qNl,["self"],uP),(197,qDj,["self"],jS),(232,qDr,["self"],vV),(246,qNy,["self"],qFx),(260,qNn,["parser"],qFo),(267,qHz,["code"],qAw),(274,qSx,["code"],qMg),(279,place_sc,["rows", "bar"],wQ)]
noncomputable def zLq (p:Params):Array DictEntry:=match (K p).lookup 91 with
 | some ⟨_,_,.dict es _,_⟩=>es
 | _=>#[]
noncomputable def zMc (es:Array DictEntry):Bool:=es.toList.all fun e=>match e.key with | .int k _=>e.hash == hashInt k | _=>false
theorem zEi {es:Array DictEntry} (h:zMc es=true):IntKeys es:=by
 intro e he
 have:=List.all_eq_true.mp h e (Array.mem_toList_iff.mpr he)
 revert this
 cases hk:e.key <;> intro this <;> first | exact ⟨_,_,rfl,eq_of_beq this⟩ | cases this
noncomputable def zLk (f:Nat→Nat) (es:Array DictEntry) (c:Nat):Bool:=match findBy Value.isInt es (c:Int) with | some (.int i _)=>i == (f c:Nat) | _=>false
theorem zGz {f:Nat→Nat} {es:Array DictEntry} (h:(List.range 128).all (zLk f es)=true):∀ c:Nat,c < 128→∃ t,findBy Value.isInt es (c:Int)=some (.int (f c:Nat) t):=by
 intro c hc
 have:=List.all_eq_true.mp h c (List.mem_range.mpr hc)
 unfold zLk at this
 split at this
 ·rename_i i t e; rw [e,eq_of_beq this]; exact ⟨t,rfl⟩
 ·cases this
theorem zGs:∀ c,c < 128→tr12 c < 128:=by decide +kernel
theorem zLr (p:Params):TabOk (K p) 83 91 tr12 :=
 ⟨⟨_,zLq p,_,rfl,rfl,rfl,zEi (by kernel_rfl),zGz (by kernel_rfl)⟩,by rfl,by rfl,by rfl,zGs⟩
section
variable {P:Par} {pv:Program} {loose:List Str} {mg mb:Str→Option Value} {K:Frag}
theorem glB (X:K.In P.B) (T:TopRead pv loose mg mb P.B) {x:Str} {v:Value} (e:nsIn K mainGlobals x=some none) (hv:bootBuiltins x=some v) (hn:x≠"__name__") :
  ∃ c mg mb,P.B.Ns mainGlobals mg∧P.B.Ns builtinsNs mb∧(mg x=some c∨(mg x=none∧mb x=some c))∧c=v :=
 ⟨v,mg,mb,T.g,T.b,.inr ⟨mg_none_of X T.g e,(T.builtins x hn).trans hv⟩,rfl⟩
theorem glK (X:K.In P.B) (T:TopRead pv loose mg mb P.B) {x:Str} {v:Value} (e:nsIn K mainGlobals x=some (some v)) :
  ∃ c mg mb,P.B.Ns mainGlobals mg∧P.B.Ns builtinsNs mb∧(mg x=some c∨(mg x=none∧mb x=some c))∧c=v :=
 ⟨v,mg,mb,T.g,T.b,.inl (mg_of X T.g e),rfl⟩
noncomputable def kQ (P:Par) (x:Str) (v:V):Prop:=∃ c mg mb,P.B.Ns mainGlobals mg∧P.B.Ns builtinsNs mb∧(mg x=some c∨(mg x=none∧mb x=some c))∧∀ W n,VR W n v c
theorem xM {x:Str} {v:Value} (h:∃ c mg mb,P.B.Ns mainGlobals mg∧P.B.Ns builtinsNs mb∧(mg x=some c∨(mg x=none∧mb x=some c))∧c=v):kQ P x (.top v):=by
 obtain ⟨c,mg,mb,a,b,d,rfl⟩:=h
 exact ⟨c,mg,mb,a,b,d,fun _ _=>.top _⟩
theorem qCa {x:Str} {i:Int} {t:Tok} (h:∃ c mg mb,P.B.Ns mainGlobals mg∧P.B.Ns builtinsNs mb∧(mg x=some c∨(mg x=none∧mb x=some c))∧c=.int i t):kQ P x (.int i):=by
 obtain ⟨c,mg,mb,a,b,d,rfl⟩:=h
 exact ⟨_,mg,mb,a,b,d,fun _ _=>.int _ _⟩
end
section
variable {P:Par} {pv:Program} {loose:List Str} {mg mb:Str→Option Value}
theorem fc {α:Type} {p:α→Prop} {a:α} {l:List α} (h:p a) (t:∀ q∈l,p q):∀ q∈a::l,p q:=List.forall_mem_cons.mpr ⟨h,t⟩
theorem fn {α:Type} {p:α→Prop}:∀ q∈([]:List α),p q:=fun _ h=>nomatch h
theorem qWp (p:Params) (X:(K p).In P.B) (T:TopRead pv loose mg mb P.B):∀ q∈gl09T,kQ P q.1 q.2:=by
 unfold gl09T
 refine fc (p:=fun q:Str×V=>kQ P q.1 q.2) (xM (glB X T (by rfl) (by rfl) (by decide))) ?_
 refine fc (p:=fun q:Str×V=>kQ P q.1 q.2) (xM (glB X T (by rfl) (by rfl) (by decide))) ?_
 refine fc (p:=fun q:Str×V=>kQ P q.1 q.2) (xM (glB X T (by rfl) (by rfl) (by decide))) ?_
 refine fc (p:=fun q:Str×V=>kQ P q.1 q.2) (xM (glB X T (by rfl) (by rfl) (by decide))) ?_
 refine fc (p:=fun q:Str×V=>kQ P q.1 q.2) (xM (glB X T (by rfl) (by rfl) (by decide))) ?_
 refine fc (p:=fun q:Str×V=>kQ P q.1 q.2) (xM (glK X T (by rfl))) ?_
 refine fc (p:=fun q:Str×V=>kQ P q.1 q.2) (xM (glK X T (by rfl))) ?_
 refine fc (p:=fun q:Str×V=>kQ P q.1 q.2) (xM (glK X T (by rfl))) ?_
 refine fc (p:=fun q:Str×V=>kQ P q.1 q.2) (xM (glK X T (by rfl))) ?_
 refine fc (p:=fun q:Str×V=>kQ P q.1 q.2) (xM (glK X T (by rfl))) ?_
 refine fc (p:=fun q:Str×V=>kQ P q.1 q.2) (xM (glK X T (by rfl))) ?_
 refine fc (p:=fun q:Str×V=>kQ P q.1 q.2) (xM (glK X T (by rfl))) ?_
 refine fc (p:=fun q:Str×V=>kQ P q.1 q.2) (xM (glK X T (by rfl))) ?_
 refine fc (p:=fun q:Str×V=>kQ P q.1 q.2) (xM (glK X T (by rfl))) ?_
 refine fc (p:=fun q:Str×V=>kQ P q.1 q.2) (xM (glK X T (by rfl))) ?_
 refine fc (p:=fun q:Str×V=>kQ P q.1 q.2) (qCa (glK X T (by rfl))) ?_
 refine fc (p:=fun q:Str×V=>kQ P q.1 q.2) (qCa (glK X T (by rfl))) ?_
 refine fc (p:=fun q:Str×V=>kQ P q.1 q.2) (qCa (glK X T (by rfl))) ?_
 refine fc (p:=fun q:Str×V=>kQ P q.1 q.2) (qCa (glK X T (by rfl))) ?_
 refine fc (p:=fun q:Str×V=>kQ P q.1 q.2) (qCa (glK X T (by rfl))) ?_
 exact fn
theorem zEr (p:Params) (X:(K p).In P.B) (T:TopRead pv loose mg mb P.B) (x:Str) (v:V) (h:zEs x=some v):kQ P x v:=qWp p X T (x,v) (qR h)
theorem qKw (p:Params):∀ q∈meths09,findIn (K p) (.ref 249) q.1=some (some (.ref q.2))∧typeIn (K p) (.ref q.2)=some (.type "function"):=by
 unfold meths09
 refine fc (p:=fun q:Str×Addr=>findIn (K p) (.ref 249) q.1=some (some (.ref q.2))∧typeIn (K p) (.ref q.2)=some (.type "function")) ⟨by rfl,by rfl⟩ ?_
 refine fc (p:=fun q:Str×Addr=>findIn (K p) (.ref 249) q.1=some (some (.ref q.2))∧typeIn (K p) (.ref q.2)=some (.type "function")) ⟨by rfl,by rfl⟩ ?_
 refine fc (p:=fun q:Str×Addr=>findIn (K p) (.ref 249) q.1=some (some (.ref q.2))∧typeIn (K p) (.ref q.2)=some (.type "function")) ⟨by rfl,by rfl⟩ ?_
 refine fc (p:=fun q:Str×Addr=>findIn (K p) (.ref 249) q.1=some (some (.ref q.2))∧typeIn (K p) (.ref q.2)=some (.type "function")) ⟨by rfl,by rfl⟩ ?_
 refine fc (p:=fun q:Str×Addr=>findIn (K p) (.ref 249) q.1=some (some (.ref q.2))∧typeIn (K p) (.ref q.2)=some (.type "function")) ⟨by rfl,by rfl⟩ ?_
 refine fc (p:=fun q:Str×Addr=>findIn (K p) (.ref 249) q.1=some (some (.ref q.2))∧typeIn (K p) (.ref q.2)=some (.type "function")) ⟨by rfl,by rfl⟩ ?_
 refine fc (p:=fun q:Str×Addr=>findIn (K p) (.ref 249) q.1=some (some (.ref q.2))∧typeIn (K p) (.ref q.2)=some (.type "function")) ⟨by rfl,by rfl⟩ ?_
 refine fc (p:=fun q:Str×Addr=>findIn (K p) (.ref 249) q.1=some (some (.ref q.2))∧typeIn (K p) (.ref q.2)=some (.type "function")) ⟨by rfl,by rfl⟩ ?_
 exact fn
theorem qRd (p:Params):∀ f∈flds09,findIn (K p) (.ref 249) f=some none:=by
 unfold flds09
 refine fc (p:=fun f=>findIn (K p) (.ref 249) f=some none) (by rfl) ?_
 refine fc (p:=fun f=>findIn (K p) (.ref 249) f=some none) (by rfl) ?_
 refine fc (p:=fun f=>findIn (K p) (.ref 249) f=some none) (by rfl) ?_
 refine fc (p:=fun f=>findIn (K p) (.ref 249) f=some none) (by rfl) ?_
 refine fc (p:=fun f=>findIn (K p) (.ref 249) f=some none) (by rfl) ?_
 refine fc (p:=fun f=>findIn (K p) (.ref 249) f=some none) (by rfl) ?_
 refine fc (p:=fun f=>findIn (K p) (.ref 249) f=some none) (by rfl) ?_
 refine fc (p:=fun f=>findIn (K p) (.ref 249) f=some none) (by rfl) ?_
 refine fc (p:=fun f=>findIn (K p) (.ref 249) f=some none) (by rfl) ?_
 refine fc (p:=fun f=>findIn (K p) (.ref 249) f=some none) (by rfl) ?_
 refine fc (p:=fun f=>findIn (K p) (.ref 249) f=some none) (by rfl) ?_
 exact fn
theorem zBd (p:Params) (X:(K p).In P.B) (b:Addr) (code:Array Nat):jT b=some code→∃ pt,P.B.get? b=some (Mine.Lake.Re.boundObj "re.Pattern.match" pt)∧Mine.Lake.Re.PatAt P.B pt code:=by
 show (fun o:Option (Array Nat)=>o=some code→_) (jT b)
 unfold jT
 refine kK (G:=fun o:Option (Array Nat)=>o=some code→∃ pt,P.B.get? b=some (Mine.Lake.Re.boundObj "re.Pattern.match" pt)∧Mine.Lake.Re.PatAt P.B pt code) (fun hx e=>?_) fun _=>?_
 ·subst hx; cases e; exact ⟨48,X _ _ (by rfl),⟨_,_,_,X _ _ (by rfl),by rfl,by rfl,by rfl,by rfl,by rfl,_,_,_,X _ _ (by rfl),by rfl,by first | rfl | kernel_rfl⟩⟩
 refine kK (G:=fun o:Option (Array Nat)=>o=some code→∃ pt,P.B.get? b=some (Mine.Lake.Re.boundObj "re.Pattern.match" pt)∧Mine.Lake.Re.PatAt P.B pt code) (fun hx e=>?_) fun _=>?_
 ·subst hx; cases e; exact ⟨53,X _ _ (by rfl),⟨_,_,_,X _ _ (by rfl),by rfl,by rfl,by rfl,by rfl,by rfl,_,_,_,X _ _ (by rfl),by rfl,by first | rfl | kernel_rfl⟩⟩
 refine kK (G:=fun o:Option (Array Nat)=>o=some code→∃ pt,P.B.get? b=some (Mine.Lake.Re.boundObj "re.Pattern.match" pt)∧Mine.Lake.Re.PatAt P.B pt code) (fun hx e=>?_) fun _=>?_
 ·subst hx; cases e; exact ⟨58,X _ _ (by rfl),⟨_,_,_,X _ _ (by rfl),by rfl,by rfl,by rfl,by rfl,by rfl,_,_,_,X _ _ (by rfl),by rfl,by first | rfl | kernel_rfl⟩⟩
 ·exact fun e=>nomatch e
theorem zHj (p:Params) (X:(K p).In P.B):∃ pt,P.B.get? 63=some (Mine.Lake.Re.boundObj "re.Pattern.search" pt)∧Mine.Lake.Re.PatAt P.B pt Mine.Lake.Re.code1 :=
 ⟨43,X _ _ (by rfl),⟨_,_,_,X _ _ (by rfl),by rfl,by rfl,by rfl,by rfl,by rfl,_,_,_,X _ _ (by rfl),by rfl,by first | rfl | kernel_rfl⟩⟩
theorem zLt (p:Params) (X:(K p).In P.B) (T:TopRead pv loose mg mb P.B) (hl:qIy P):PrgOk P (G09 p) :=
 ⟨⟨X,by rfl,by rfl,by rfl,by rfl,by rfl,by rfl⟩,zLr p,hl,zHj p X,fun b code h=>zBd p X b code h,fun m g h=>qKw p (m,g) (qR h),fun f h=>qRd p f (by
  have h':flds09.contains f=true:=h
  simpa using h'),zEr p X T⟩
theorem hN {β:Type} {a:Addr} {b:β}:∀ {l:List (Addr×β)},l.lookup a=some b→(a,b)∈l
 | [],h=>nomatch h
 | (c,d)::l,h=>by
  rw [List.lookup_cons] at h
  split at h
  ·rename_i q; cases h; rw [beq_iff_eq.mp q]; exact .head _
  ·exact .tail _ (hN h)
theorem qKn (p:Params):∀ q∈rows09,zM (K p) q.1 q.2.1 q.2.2.1 q.2.2.2:=by
 unfold rows09
 refine fc (p:=fun q:Addr×Scope×List Str×S=>zM (K p) q.1 q.2.1 q.2.2.1 q.2.2.2) (zIc p) ?_
 refine fc (p:=fun q:Addr×Scope×List Str×S=>zM (K p) q.1 q.2.1 q.2.2.1 q.2.2.2) (zIb p) ?_
 refine fc (p:=fun q:Addr×Scope×List Str×S=>zM (K p) q.1 q.2.1 q.2.2.1 q.2.2.2) (zIa p) ?_
 refine fc (p:=fun q:Addr×Scope×List Str×S=>zM (K p) q.1 q.2.1 q.2.2.1 q.2.2.2) (zHz p) ?_
 refine fc (p:=fun q:Addr×Scope×List Str×S=>zM (K p) q.1 q.2.1 q.2.2.1 q.2.2.2) (zHy p) ?_
 refine fc (p:=fun q:Addr×Scope×List Str×S=>zM (K p) q.1 q.2.1 q.2.2.1 q.2.2.2) (zHx p) ?_
 refine fc (p:=fun q:Addr×Scope×List Str×S=>zM (K p) q.1 q.2.1 q.2.2.1 q.2.2.2) (zHw p) ?_
 refine fc (p:=fun q:Addr×Scope×List Str×S=>zM (K p) q.1 q.2.1 q.2.2.1 q.2.2.2) (zHv p) ?_
 refine fc (p:=fun q:Addr×Scope×List Str×S=>zM (K p) q.1 q.2.1 q.2.2.1 q.2.2.2) (zHu p) ?_
 refine fc (p:=fun q:Addr×Scope×List Str×S=>zM (K p) q.1 q.2.1 q.2.2.1 q.2.2.2) (zHt p) ?_
 refine fc (p:=fun q:Addr×Scope×List Str×S=>zM (K p) q.1 q.2.1 q.2.2.1 q.2.2.2) (zHs p) ?_
 refine fc (p:=fun q:Addr×Scope×List Str×S=>zM (K p) q.1 q.2.1 q.2.2.1 q.2.2.2) (zHr p) ?_
 refine fc (p:=fun q:Addr×Scope×List Str×S=>zM (K p) q.1 q.2.1 q.2.2.1 q.2.2.2) (zHq p) ?_
 exact fn
theorem qQb (p:Params):qLz (G09 p).K rows09:=fun a sc ps b h=>qKn p (a,sc,ps,b) (hN h)
theorem qZp (hp:P.ex=none) (p:Params) (X:(K p).In P.B) (T:TopRead pv loose mg mb P.B) (hl:qIy P) (n:Nat):SxOk P (tower (G09 p) rows09 x07 155 n) :=
 yN hp (zLt p X T hl) T.nolimit (qQb p) (zGy p) (by rfl) (by rfl) n
end
noncomputable def lq:Str:="law.<locals>.<lambda>"
noncomputable def start09 (ns:List Int):St:=qNe qWc lq [("script", .list (ns.map .int))]
noncomputable def qOd:Prop:=∀ p,∀ ns:List Int,ns.length≤63→∃ σ',ex qNd (tower (G09 p) rows09 x07 155 6) (start09 ns)=.ok (.ret (.bool true)) σ'∧σ'.obj 0=some (.tab lq)
theorem qHw {W:Wd} {n:Nat}:∀ {vs:List Value} {ns:List Int},IntsAre vs ns→VRs W n (ns.map .int) vs
 | _,_,.nil=>.nil
 | _,_,.cons _ _ r=>.cons (.int _ _) (qHw r)
theorem hV:∀ {vs:List Value} {ns:List Int},IntsAre vs ns→vs.length=ns.length
 | _,_,.nil=>rfl
 | _,_,.cons _ _ r=>congrArg Nat.succ (hV r)
theorem qQf (l:List PyData):∃ xs,ofPy (PyData.list l)=.list xs:=by
 first | exact ⟨_,rfl⟩ | (unfold ofPy; exact ⟨_,rfl⟩)
local macro_rules | `(tactic| k_qdec)=>`(tactic| decide +kernel)
theorem joined (plain:qOd):PySem.Challenge.rw_dm0167_07.Holds:=hd (by
 intro w s₀ s₁ mg mb G Y fa o pm cd doc dV kV ho hd hcd hD hmg hg args vals as hpre hlay hrd hwl hlo
 have KX:=kIn_of Y
 have V:=(Ground.X G).2
 refine Ground.open G ?_
 intro T B D TE TW
 try (refine guard_noD D (by decide +kernel) ?_; clear D)
 have hT9:TabsAt ([(283,281)]:List (Addr×Addr)) _:=List.forall_mem_cons.mpr ⟨tab_of (x:=PySem.Str.ofString "law") (c:=283) (P:=281) T KX rfl (by kernel_rfl),fun _ h=>nomatch h⟩
 have he9:cd=PySem.Value.ref 283:=law_code (x:=PySem.Str.ofString "law") (c:=283) (P:=281) KX (Top.g T) (by kernel_rfl) hmg ho hd
 subst he9
 clear hmg
 wrow_args hpre hlay hrd hwl hlo
 all_goals (
  refine zKn ?_
  w_top on
  refine zLu hT9 (fun _ _=>rfl) ?_
  w_call any ho hd hcd hD T F
  clear hd
  kn_ghosts F T
  k_drop
  skip)
 rename_i ns hs hlay0 hL0 hr0 hl2 u5 u4 a vs u1 hL ra hW1 r0 hI hr hcond1 hcond2 h₁ tk₁ w0 hc0 X0 X' T' K' F' N' l0
 obtain ⟨lo,hlo,hlc,ln,hld⟩:=lifted
 have hlen:ns.length≤63:=by omega
 obtain ⟨σ',hex,htab⟩:=plain w.params ns hlen
 have hvl:=hV hI
 have hdict:lo.dict=none:=by
  obtain ⟨xs,e⟩:=qQf (ns.map PyData.int)
  obtain ⟨lo2,hlo2,hc2,_⟩:=hL
  have e2:=ghost_ne (tabs:=[(283,281)]) hlo2 (fun z=>by
   have z':=List.mem_singleton.mp z
   rw [z'] at hlo2
   have e9:s₁.heap.get? 281=some (tabObj #[]):=(hT9 _ (.head _)).2
   rw [e9] at hlo2; cases hlo2; cases hc2)
  rw [e] at hW1
  cases hW1 with
  | list e3 _=>rw [e3] at hlo2; cases hlo2; rw [e2] at hlo; cases hlo; rfl
 have hlam:qIy ⟨PySem.Challenge.rw_dm0167_07.row.prog,w,ghostOf s₁.heap [(283,281)],s₁.os,none,281⟩:=by
  obtain ⟨bm,ob,b1,b2,b3,b4,b5,b6⟩:=T'.bmain
  exact ⟨mg,bm,ob,T'.g,b1,b2,b3,b4,b5,b6⟩
 have SX:=fun n=>qZp (P:=⟨PySem.Challenge.rw_dm0167_07.row.prog,w,ghostOf s₁.heap [(283,281)],s₁.os,none,281⟩) rfl w.params X' (topRead_of T') hlam n
 refine zEh (P:=⟨PySem.Challenge.rw_dm0167_07.row.prog,w,ghostOf s₁.heap [(283,281)],s₁.os,none,281⟩) (sc:=qWc) (ps:=["script"]) (args:=[.list (ns.map .int)]) (cargs:=[.ref a]) (T:=281) (L:=s₁.heap.objs.size) (cd:=283) (q:=lq) (fz:=fun b=>if b=a then some lo else none) (cx:=tower (G09 w.params) rows09 x07 155 6) (b:=qNd) (v:=.bool true) (σ':=σ')
  (by decide +kernel) rfl rfl rfl rfl rfl rfl (hideAll_size _ _) l0 F'.ns F'.keep (fun x c hm=>?_) (fun b ob hb=>?_) (.cons (.list (if_pos rfl) hlc hld ?_ (qHw hI) hdict) .nil) hg rfl
  (hideAll_none _ (.head _)) (N' _ (.tail _ (.head _))).1 rfl codeHd rfl rfl rfl (SX 6) (by rw [wK]; decide) (by (repeat' first | exact rfl | decide +kernel | exact qU | exact (fun _ _ _=>rfl) | exact ⟨_,_,rfl⟩ | constructor)) hex htab (fun W c s' ps' hv hk ht ho hg=>?_)
 ·have hm':(x,c)∈[(("bar" : Str),s₁.heap.objs.size+1)]:=hm
  cases List.mem_singleton.mp hm'
  exact ⟨w0,(N' _ (.head _)).1,hc0⟩
 ·have hb':(if b=a then some lo else none)=some ob:=hb
  split at hb'
  ·rename_i e; subst e; cases hb'; exact hlo
  ·cases hb'
 ·rw [List.size_toArray,sizeLine_eq]; omega
 ·cases hv
  refine ⟨⟨.inl ⟨_,_,_,rfl,fun cls=>?_,.bool true,?_,fun _=>⟨List.nodup_nil,fun a ha=>by cases ha⟩⟩,hk,ho,hg⟩,⟨ps',ht⟩,trivial⟩
  ·rfl
  ·first | rfl | kernel_rfl | w_fin)
end Mine.Lake.L09
end
noncomputable section
namespace Mine.Lake.Rp
open PySem PySem.StrLaws PySem.Builtin PySem.Builtin.Str
noncomputable def rp (y z:List Nat):Nat→List Nat→List Nat
 | _,[]=>[]
 | k+1,_::l=>rp y z k l
 | 0,c::l=>if (c::l).take y.length=y then z++rp y z (y.length - 1) l else c::rp y z 0 l
noncomputable def oc (y:List Nat):Nat→Nat→List Nat→List Nat
 | _,_,[]=>[]
 | i,k+1,_::l=>oc y (i+1) k l
 | i,0,c::l=>if (c::l).take y.length=y then i::oc y (i+1) (y.length - 1) l else oc y (i+1) 0 l
theorem qAa {α:Type} {xs:List α} {i:Nat} (h:xs.drop i=[]):xs.length≤i:=List.drop_eq_nil_iff.mp h
theorem uA {α:Type} {xs l:List α} {i:Nat} {c:α} (h:xs.drop i=c::l):i < xs.length:=Nat.lt_of_not_le fun q=>by
 rw [List.drop_eq_nil_of_le q] at h; cases h
theorem qDi {α:Type} {xs y:List α} {i:Nat} (hi:i≤xs.length) (h:(xs.drop i).take y.length=y):i+y.length≤xs.length:=by
 have:=congrArg List.length h
 rw [List.length_take,List.length_drop] at this
 have h2:y.length≤xs.length - i:=by rw [← this]; exact Nat.min_le_right _ _
 exact Nat.add_le_of_le_sub' hi h2
section
variable {x:Str} {y z:List Nat}
theorem qFb (hy:y≠[]) (n:Nat) (hn:n=x.length):∀ (l:List Nat) (i k free:Nat) (found:Array Nat),free - i=k→x.cps.toList.drop i=l→found.size≤i→i≤n →
  (forIn (List.range' i (n+1 - i)) (found,free) (occBody x ⟨y.toArray⟩ n (n+1))).run.fst.toList=found.toList++oc y i k l
 | [],i,k,free,found,hk,h,hs,hi=>by
  have hlen:x.cps.toList.length=n:=by rw [hn]; exact Array.length_toList
  have hge:n≤i:=hlen ▸ qAa h
  have:i=n:=Nat.le_antisymm hi hge
  subst this
  have hr:List.range' i (i+1 - i)=[i]:=by
   rw [Nat.add_sub_cancel_left]; rfl
  rw [hr]
  rw [List.forIn_cons]
  unfold occBody
  have hy':0 < (⟨y.toArray⟩:Str).length:=by
   show 0 < y.toArray.size
   rw [List.size_toArray]
   exact List.length_pos_iff.mpr hy
  rw [if_neg (fun q=>absurd q.1.2 (Nat.not_le.mpr (Nat.lt_add_of_pos_right hy')))]
  simp [oc]
 | c::l,i,k,free,found,hk,h,hs,hi=>by
  have hlen:x.cps.toList.length=n:=by rw [hn]; exact Array.length_toList
  have hlt:i < n:=hlen ▸ uA h
  have hl:x.cps.toList.drop (i+1)=l:=by
   rw [← List.drop_drop,h]; rfl
  have hr:List.range' i (n+1 - i)=i::List.range' (i+1) (n+1 - (i+1)):=by
   rw [Nat.add_sub_add_right,Nat.succ_sub (Nat.le_of_lt hlt)]; rfl
  have hyl:(⟨y.toArray⟩:Str).length=y.length:=by
   show y.toArray.size=_
   rw [List.size_toArray]
  have hat:(i+(⟨y.toArray⟩:Str).length≤n∧subAt x ⟨y.toArray⟩ i=true) ↔ (c::l).take y.length=y:=by
   rw [subAt_eq,h,hyl]
   constructor
   ·intro q; simpa using q.2
   ·intro q
    refine ⟨?_,by simpa using q⟩
    rw [← h] at q
    exact hlen ▸ qDi (hlen.symm ▸ hi) q
  rw [hr,List.forIn_cons]
  unfold occBody
  cases k with
  | succ k =>
   rw [if_neg (fun q=>by
    have e:free - i=0:=Nat.sub_eq_zero_of_le q.1.1.2
    rw [e] at hk; cases hk)]
   exact qFb hy n hn l (i+1) k free found (by rw [Nat.sub_succ,hk]; rfl) hl (Nat.le_succ_of_le hs) hlt
  | zero =>
   by_cases hc:(c::l).take y.length=y
   ·obtain ⟨q1,q2⟩:=hat.mpr hc
    rw [if_pos ⟨⟨⟨Nat.lt_succ_of_le (Nat.le_trans hs hi),Nat.sub_eq_zero_iff_le.mp hk⟩,q1⟩,q2⟩]
    have ih:=qFb hy n hn l (i+1) (y.length - 1) (i+(⟨y.toArray⟩:Str).length) (found.push i) (by rw [hyl,Nat.add_sub_add_left]) hl (by rw [Array.size_push]; exact Nat.succ_le_succ hs) hlt
    have e:oc y i 0 (c::l)=i::oc y (i+1) (y.length - 1) l:=if_pos hc
    rw [e]
    refine Eq.trans ih ?_
    rw [Array.toList_push,List.append_assoc]; rfl
   ·rw [if_neg (fun q=>hc (hat.mp ⟨q.1.2,q.2⟩))]
    have e:oc y i 0 (c::l)=oc y (i+1) 0 l:=if_neg hc
    rw [e]
    exact qFb hy n hn l (i+1) 0 free found (by rw [Nat.sub_succ,hk]; rfl) hl (Nat.le_succ_of_le hs) hlt
theorem zIk (hy:y≠[]):occurrences x ⟨y.toArray⟩ 0 x.length (x.length+1)=oc y 0 0 x.cps.toList:=by
 rw [occ_eq]
 exact qFb hy x.length rfl x.cps.toList 0 0 0 #[] rfl rfl (Nat.zero_le _) (Nat.zero_le _)
end
section
variable {x:Str} {y z:List Nat}
theorem qQw (z p:Str) {r:List Str} (h:r≠[]):Str.join z (p::r)=p++z++Str.join z r:=by
 cases r with
 | nil=>exact absurd rfl h
 | cons a r=>rfl
theorem qUw {x:Str} {w a:Nat} {cuts:List Nat}:partsFrom x w a cuts≠[]:=by
 cases cuts <;> exact List.cons_ne_nil _ _
theorem qGs (x:Str) (a b:Nat):(strSub x a b).cps.toList=(x.cps.toList.drop a).take (b - a):=strSub_toList x a b
theorem yQ (hy:y≠[]):∀ (l:List Nat) (i k a:Nat),x.cps.toList.drop i=l→i≤x.length→(k=0→a≤i)→(0 < k→a=i+k)→a≤x.length →
  (Str.join ⟨z.toArray⟩ (partsFrom x y.length a (oc y i k l))).cps.toList=(x.cps.toList.drop a).take (i - a)++rp y z k l
 | [],i,k,a,h,hi,h0,h1,ha=>by
  have hlen:x.cps.toList.length=x.length:=Array.length_toList
  have hge:x.length≤i:=hlen ▸ qAa h
  have e1:oc y i k []=[]:=by cases k <;> rfl
  have e2:rp y z k []=[]:=by cases k <;> rfl
  rw [e1,e2,List.append_nil]
  show (strSub x a x.length).cps.toList=_
  rw [qGs]
  by_cases hk:k=0
  ·have:=h0 hk
   rw [Nat.le_antisymm hi hge]
  ·have:=h1 (Nat.pos_of_ne_zero hk)
   exact absurd (Nat.le_trans ha hge) (this ▸ Nat.not_le.mpr (Nat.lt_add_of_pos_right (Nat.pos_of_ne_zero hk)))
 | c::l,i,k,a,h,hi,h0,h1,ha=>by
  have hlen:x.cps.toList.length=x.length:=Array.length_toList
  have hlt:i < x.length:=hlen ▸ uA h
  have hl:x.cps.toList.drop (i+1)=l:=by
   rw [← List.drop_drop,h]; rfl
  cases k with
  | succ k =>
   have ha':=h1 (Nat.succ_pos _)
   show (Str.join _ (partsFrom x y.length a (oc y (i+1) k l))).cps.toList=_++rp y z k l
   rw [yQ hy l (i+1) k a hl hlt (fun q=>by rw [ha',q]; exact Nat.le_refl _) (fun _=>ha'.trans (Nat.add_right_comm i k 1)) ha]
   rw [Nat.sub_eq_zero_of_le (ha' ▸ Nat.add_le_add_left (Nat.succ_pos k) i),Nat.sub_eq_zero_of_le (ha' ▸ Nat.le_add_right i _)]
  | zero =>
   have hai:=h0 rfl
   by_cases hc:(c::l).take y.length=y
   ·have e1:oc y i 0 (c::l)=i::oc y (i+1) (y.length - 1) l:=if_pos hc
    have e2:rp y z 0 (c::l)=z++rp y z (y.length - 1) l:=if_pos hc
    have hp:0 < y.length:=List.length_pos_iff.mpr hy
    have hfit:i+y.length≤x.length:=hlen ▸ qDi (hlen.symm ▸ hi) (h.symm ▸ hc)
    rw [e1,e2]
    show (Str.join _ (strSub x a i::partsFrom x y.length (i+y.length) _)).cps.toList=_
    rw [qQw _ _ qUw]
    show (((strSub x a i).cps++z.toArray)++(Str.join _ _).cps).toList=_
    rw [Array.toList_append,Array.toList_append,qGs,yQ hy l (i+1) (y.length - 1) (i+y.length) hl hlt (fun q=>Nat.add_le_add_left (Nat.le_of_sub_eq_zero q) i) (fun _=>by rw [Nat.add_assoc,Nat.add_sub_cancel' hp]) hfit]
    rw [Nat.sub_eq_zero_of_le (Nat.add_le_add_left hp i),List.take_zero,List.nil_append,List.append_assoc]
   ·have e1:oc y i 0 (c::l)=oc y (i+1) 0 l:=if_neg hc
    have e2:rp y z 0 (c::l)=c::rp y z 0 l:=if_neg hc
    rw [e1,e2,yQ hy l (i+1) 0 a hl hlt (fun _=>Nat.le_succ_of_le hai) (fun q=>absurd q (Nat.lt_irrefl 0)) ha]
    have e3:(x.cps.toList.drop a).take (i+1 - a)=(x.cps.toList.drop a).take (i - a)++[c]:=by
     rw [Nat.succ_sub hai,List.take_add_one]
     congr 1
     rw [List.getElem?_drop,Nat.add_sub_cancel' hai]
     have:(x.cps.toList.drop i)[0]? = some c:=by rw [h]; rfl
     rw [List.getElem?_drop,Nat.add_zero] at this
     rw [this]; rfl
    rw [e3,List.append_assoc]; rfl
theorem qMr (hy:y≠[]):∀ (l:List Nat) (i k:Nat),oc y i k l=[]→k=0→rp y z k l=l
 | [],i,k,h,hk=>by subst hk; rfl
 | c::l,i,k,h,hk=>by
  subst hk
  by_cases hc:(c::l).take y.length=y
  ·have e1:oc y i 0 (c::l)=i::oc y (i+1) (y.length - 1) l:=if_pos hc
   rw [e1] at h; cases h
  ·have e1:oc y i 0 (c::l)=oc y (i+1) 0 l:=if_neg hc
   have e2:rp y z 0 (c::l)=c::rp y z 0 l:=if_neg hc
   rw [e1] at h
   rw [e2,qMr hy l (i+1) 0 h rfl]
theorem qKo (hy:y≠[]):(Txt.replace x ⟨y.toArray⟩ ⟨z.toArray⟩).cps.toList=rp y z 0 x.cps.toList:=by
 have hyl:(⟨y.toArray⟩:Str).length=y.length:=by
  show y.toArray.size=_
  rw [List.size_toArray]
 have hp:0 < y.length:=List.length_pos_iff.mpr hy
 unfold Txt.replace
 rw [zIk hy]
 split
 ·rename_i hc
  rw [Bool.or_eq_true,Bool.and_eq_true] at hc
  rcases hc with hc | hc
  ·exact (qMr hy _ 0 0 (List.isEmpty_iff.mp hc) rfl).symm
  ·have:=beq_iff_eq.mp hc.1
   rw [hyl] at this; lia
 ·rw [glued_eq_join,partsBetween_eq,hyl,yQ hy x.cps.toList 0 0 0 rfl (Nat.zero_le _) (fun _=>Nat.le_refl _) (fun h=>absurd h (Nat.lt_irrefl _)) (Nat.zero_le _)]
  simp
end
end Mine.Lake.Rp
end
noncomputable section
namespace Mine.Lake.Rp
open PySem
section
variable {y z:List Nat}
noncomputable def four (l:List Nat):List Nat:=rp [120,120] [120] 0 (rp [120,120] [120] 0 (rp [120,120,120,120] [120] 0 (rp [120,120,120,120,120,120,120,120] [120] 0 l)))
noncomputable def lastp (l:List Nat):List Nat:=rp [10,120] [10] 0 l
end
end Mine.Lake.Rp
end
noncomputable section
namespace Mine.Lake
open PySem PySem.W PyProof.Rows
theorem zFe {cx:Cx} {x:_} {σ:St}:ev cx (.var x) σ=(match σ.loc.lookup x with | some v=>.ok v σ | Option.none=>.bad):=rfl
theorem qXg {cx:Cx} {x:_} {σ:St}:ev cx (.cv x) σ=(match σ.cel.lookup x with
  | some k=>(match σ.obj k with | some (.cell (some v))=>.ok v σ | _=>.bad)
  | Option.none=>.bad):=rfl
theorem qXf {cx:Cx} {x:_} {σ:St}:ev cx (.glob x) σ=(match cx.gl x with | some v=>.ok v σ | Option.none=>.bad):=rfl
theorem zFk {cx:Cx} {op:_} {a:_} {b:_} {σ:St}:ev cx (.bin op a b) σ=((ev cx a σ).bind fun va σ₁=>(ev cx b σ₁).bind fun vb σ₂=>(qSd σ₂.toHp op va vb).st σ₂):=rfl
theorem zFh {cx:Cx} {a:_} {σ:St}:ev cx (.not a) σ=((ev cx a σ).bind fun va σ₁=>match zT σ₁.toHp va with | some b=>.ok (.bool !b) σ₁ | Option.none=>.bad):=rfl
theorem qNq {cx:Cx} {op:_} {a:_} {b:_} {σ:St}:ev cx (.cmp op a b) σ=((ev cx a σ).bind fun va σ₁=>(ev cx b σ₁).bind fun vb σ₂=>(wE σ₂.toHp op va vb).st σ₂):=rfl
theorem qFq {cx:Cx} {a:_} {b:_} {σ:St}:ev cx (.and a b) σ=((ev cx a σ).bind fun va σ₁=>condR va σ₁ (ev cx b) (fun σ₁=>.ok va σ₁)):=rfl
theorem qXd {cx:Cx} {a:_} {b:_} {σ:St}:ev cx (.or a b) σ=((ev cx a σ).bind fun va σ₁=>condR va σ₁ (fun σ₁=>.ok va σ₁) (ev cx b)):=rfl
theorem qNp {cx:Cx} {c:_} {a:_} {b:_} {σ:St}:ev cx (.ite c a b) σ=((ev cx c σ).bind fun vc σ₁=>condR vc σ₁ (ev cx a) (ev cx b)):=rfl
theorem zFj {cx:Cx} {a:_} {i:_} {σ:St}:ev cx (.idx a i) σ=((ev cx a σ).bind fun va σ₁=>(ev cx i σ₁).bind fun vi σ₂=>(jK σ₂.toHp va vi).st σ₂):=rfl
theorem zFg {cx:Cx} {a:_} {lo:_} {hi:_} {σ:St}:ev cx (.slc a lo hi) σ=((ev cx a σ).bind fun va σ₁=>(ev cx lo σ₁).bind fun vl σ₂=>(ev cx hi σ₂).bind fun vh σ₃=>(yA σ₃.toHp va vl vh).st σ₃):=rfl
theorem qXi {cx:Cx} {o:_} {f:_} {σ:St}:ev cx (.attr o f) σ=((ev cx o σ).bind fun vo σ₁=>(cx.fld vo f σ₁.toHp).st σ₁):=rfl
theorem qIc {cx:Cx} {es:_} {σ:St}:ev cx (.list es) σ=((ev cx es σ).bind fun vs σ₁=>kM vs σ₁ fun xs σ₁=>fits xs.length (.ok (.list xs) σ₁)):=rfl
theorem zFf {cx:Cx} {es:_} {σ:St}:ev cx (.tup es) σ=((ev cx es σ).bind fun vs σ₁=>kM vs σ₁ fun xs σ₁=>fits xs.length (.ok (.tup xs) σ₁)):=rfl
theorem qId {cx:Cx} {a:_} {b:_} {σ:St}:ev cx (.cons a b) σ=((ev cx a σ).bind fun va σ₁=>(ev cx b σ₁).bind fun vs σ₂=>kM vs σ₂ fun xs σ₂=>.ok (.list (va::xs)) σ₂):=rfl
theorem qIe {cx:Cx} {f:_} {as:_} {σ:St}:ev cx (.call f as) σ=((ev cx f σ).bind fun vf σ₁=>(ev cx as σ₁).bind fun vs σ₂=>kM vs σ₂ fun xs σ₂=>(cx.app vf xs σ₂.toHp).lift σ₂):=rfl
theorem qXe {cx:Cx} {o:_} {m:_} {as:_} {σ:St}:ev cx (.meth o m as) σ=((ev cx o σ).bind fun vo σ₁=>match cx.get vo m σ₁.toHp with
  | some (vf,first)=>(ev cx as σ₁).bind fun vs σ₂=>kM vs σ₂ fun xs σ₂=>(cx.app vf (first++xs) σ₂.toHp).lift σ₂
  | Option.none=>.bad):=rfl
theorem qXh {cx:Cx} {elt:_} {x:_} {it:_} {cond:_} {σ:St}:ev cx (.comp elt x it cond) σ=(if cx.calm=true then .bad else (ev cx it σ).bind fun vi σ₁=>match xL σ₁.toHp vi with
  | some xs=>(turns vi xs (fun v σ₂=>(ev cx cond { σ₂ with loc:=[(x,v)],cel:=σ₁.cel,tbl:=Option.none }).bind fun b σ₃=>qAc b σ₃ (ev cx elt)) xs σ₁).bind fun vs σ₂=>fits vs.length (.ok (.list vs) { σ₁ with toHp:=σ₂.toHp })
  | Option.none=>.bad):=rfl
theorem zFi {cx:Cx} {ps:_} {b:_} {σ:St}:ev cx (.lam ps b) σ=(qQu σ (.clo ps b σ.cel)):=rfl
theorem qRf {cx:Cx} {x:_} {e:_} {σ:St}:ev cx (.named x e) σ=((ev cx e σ).bind fun v σ₁=>.ok v (σ₁.set x v)):=rfl
theorem qXb {cx:Sx} {x:_} {it:_} {b:_} {σ:St}:ex (.each x it b) cx σ=(if cx.calm=true then .bad else (ev cx.toCx it σ).bind fun v σ₁=>match xL σ₁.toHp v with
  | some xs=>kZ v xs (fun u σ=>ex b cx (σ.set x u)) xs σ₁
  | none=>.bad):=rfl
theorem qRe {cx:Sx} {o:_} {f:_} {o':_} {f':_} {e:_} {σ:St}:ex (.setA2 o f o' f' e) cx σ=((ev cx.toCx e σ).bind fun v σ₁=>jO v fun a b=>(ev cx.toCx o σ₁).bind fun vo σ₂=>(zZ ((cx.setA vo f a σ₂.toHp).map fun H=>{ σ₂ with toHp:=H })).bind fun _ σ₃ =>
   (ev cx.toCx o' σ₃).bind fun vo' σ₄=>zZ ((cx.setA vo' f' b σ₄.toHp).map fun H=>{ σ₄ with toHp:=H })):=rfl
theorem qXa {cx:Sx} {o:_} {m:_} {as:_} {σ:St}:ex (.tryA o m as) cx σ=(if cx.calm=true∨(cx.gl "AssertionError").any asT=false then .bad else (ev cx.toCx o σ).bind fun vo σ₁=>(cx.get vo m σ₁.toHp).elim .bad fun p=>(ev cx.toCx as σ₁).bind fun vs σ₂=>kM vs σ₂ fun xs σ₂ =>
   zZ ((cx.exc p.1 (p.2++xs) σ₂.toHp).map fun H=>{ σ₂ with toHp:=H })):=rfl
theorem zKm {cx:Sx} {x:_} {tn:_} {ps:_} {b:_} {σ:St}:ex (.sq x tn ps b) cx σ=(match σ.loc.lookup x with
  | some (.str v)=>(cx.gl tn).elim .bad fun vt=>(cx.tr vt).elim .bad fun f=>(qJw f ps v).elim .bad fun v'=>ex b cx (σ.set x (.str v'))
  | _=>.bad):=rfl
inductive Gd {α:Type} (r:Rs α) (Q:α→St→Prop):Prop where
 | mk (a:α) (σ:St) (h1:r=.ok a σ) (h2:Q a σ)
section
variable {cx:Sx} {σ σ₁ σ₂:St} {Q:Fl→St→Prop}
theorem Gd.mono {α:Type} {r:Rs α} {Q Q':α→St→Prop} (h:Gd r Q) (hq:∀ a σ,Q a σ→Q' a σ):Gd r Q':=let ⟨a,σ,e,q⟩:=h; ⟨a,σ,e,hq a σ q⟩
theorem qF {a b:S} (h:Gd (ex a cx σ) fun f σ₁=>match f with | .next=>Gd (ex b cx σ₁) Q | f=>Q f σ₁):Gd (ex (.seq a b) cx σ) Q:=by
 obtain ⟨f,σ₁,e,h⟩:=h
 have hev:ex (.seq a b) cx σ=zKh f σ₁ (ex b cx):=(Rs.bind_ok e:_)
 rw [hev]
 cases f with
 | next=>exact h
 | _=>exact ⟨_,σ₁,rfl,h⟩
theorem qG (h:Q .next σ):Gd (ex .nil cx σ) Q:=⟨_,_,rfl,h⟩
theorem zKl {x:Str} {e:X} {v:V} (he:ev cx.toCx e σ=.ok v σ₁) (h:Q .next (σ₁.set x v)):Gd (ex (.asg x e) cx σ) Q:=⟨_,_,(Rs.bind_ok he:_),h⟩
theorem zEw {e:X} {v:V} (he:ev cx.toCx e σ=.ok v σ₁) (h:Q .next σ₁):Gd (ex (.expr e) cx σ) Q:=⟨_,_,(Rs.bind_ok he:_),h⟩
theorem xN {e:X} {v:V} (he:ev cx.toCx e σ=.ok v σ₁) (h:Q (.ret v) σ₁):Gd (ex (.ret e) cx σ) Q:=⟨_,_,(Rs.bind_ok he:_),h⟩
theorem qFm {x:Str} {e:X} {xs:List V} (he:ev cx.toCx e σ=.ok (.list xs) σ₁) (h:Q .next ((σ₁.add (.list xs)).set x (.ref σ₁.nxt))):Gd (ex (.own x e) cx σ) Q:=⟨_,_,(Rs.bind_ok he:_),h⟩
theorem vP {c:X} {a b:S} {v:V} {t:Bool} (he:ev cx.toCx c σ=.ok v σ₁) (ht:zT σ₁.toHp v=some t) (h1:t=true→Gd (ex a cx σ₁) Q) (h2:t=false→Gd (ex b cx σ₁) Q):Gd (ex (.ite c a b) cx σ) Q:=by
 have hev:ex (.ite c a b) cx σ=condS v σ₁ (ex a cx) (ex b cx):=(Rs.bind_ok he:_)
 rw [hev]
 unfold condS
 rw [ht]
 cases t with
 | true=>exact h1 rfl
 | false=>exact h2 rfl
theorem qAv {x y:Str} {e:X} {a b:V} (he:ev cx.toCx e σ=.ok (.tup [a,b]) σ₁) (h:Q .next ((σ₁.set x a).set y b)):Gd (ex (.asg2 x y e) cx σ) Q:=⟨_,_,(Rs.bind_ok he:_),h⟩
noncomputable abbrev LQ (I:St→Prop) (Q:Fl→St→Prop) (f:Fl) (σ':St):Prop:=match f with
 | .next=>I σ'
 | .cont=>I σ'
 | .brk=>Q .next σ'
 | .ret u=>Q (.ret u) σ'
theorem wR {n:Nat} {c:X} {b o:S} (I:Nat→St→Prop) (h0:I n σ)
  (hb:∀ k σ,I k σ→∃ k',k=k'+1∧∃ v σ₁ t,ev cx.toCx c σ=.ok v σ₁∧zT σ₁.toHp v=some t∧(t=true→Gd (ex b cx σ₁) (LQ (I k') Q))∧(t=false→Gd (ex o cx σ₁) Q)):Gd (ex (.loop n c b o) cx σ) Q:=by
 have main:∀ k σ,I k σ→Gd (vH (tr (ev cx.toCx c)) (ex b cx) (ex o cx) k σ) Q:=by
  intro k
  induction k with
  | zero=>intro σ hI; obtain ⟨k',e,_⟩:=hb 0 σ hI; cases e
  | succ k ih =>
   intro σ hI
   obtain ⟨k',e,v,σ₁,t,e1,e2,h1,h2⟩:=hb _ σ hI
   cases e
   have et:tr (ev cx.toCx c) σ=.ok t σ₁:=by unfold tr; rw [Rs.bind_ok e1]; unfold kO; rw [e2]
   show Gd ((tr (ev cx.toCx c) σ).bind fun t σ=>if t=true then (ex b cx σ).bind (uU (vH (tr (ev cx.toCx c)) (ex b cx) (ex o cx) k)) else ex o cx σ) Q
   rw [et]
   cases t with
   | true =>
    obtain ⟨f,σ',e3,h3⟩:=h1 rfl
    show Gd ((ex b cx σ₁).bind _) Q
    rw [e3]
    cases f with
    | next=>exact ih σ' h3
    | cont=>exact ih σ' h3
    | brk=>exact ⟨_,_,rfl,h3⟩
    | ret u=>exact ⟨_,_,rfl,h3⟩
   | false=>exact h2 rfl
 exact main n σ h0
theorem qWv {v:V} {xs:List V} {b:V→St→Rs Fl} (I:List V→St→Prop) (h0:I xs σ₁)
  (hst:∀ l σ,I l σ→xL σ.toHp v=some xs) (hb:∀ y r σ,I (y::r) σ→Gd (b y σ) (LQ (I r) Q))
  (hend:∀ σ,I [] σ→Q .next σ):Gd (kZ v xs b xs σ₁) Q:=by
 have main:∀ l σ,I l σ→Gd (kZ v xs b l σ) Q:=by
  intro l
  induction l with
  | nil =>
   intro σ hI
   exact ⟨.next,σ,qIi (hst _ _ hI),hend σ hI⟩
  | cons y r ih =>
   intro σ hI
   obtain ⟨f,σ',e,h⟩:=hb y r σ hI
   rw [qNt (hst _ _ hI),e]
   cases f with
   | next=>exact ih σ' h
   | cont=>exact ih σ' h
   | brk=>exact ⟨_,_,rfl,h⟩
   | ret u=>exact ⟨_,_,rfl,h⟩
 exact main xs σ₁ h0
theorem qFn (hc:cx.calm=false) {x:Str} {it:X} {b:S} {v:V} {xs:List V} (he:ev cx.toCx it σ=.ok v σ₁) (hi:xL σ₁.toHp v=some xs) (I:List V→St→Prop) (h0:I xs σ₁)
  (hst:∀ l σ,I l σ→xL σ.toHp v=some xs) (hb:∀ y r σ,I (y::r) σ→Gd (ex b cx (σ.set x y)) (LQ (I r) Q))
  (hend:∀ σ,I [] σ→Q .next σ):Gd (ex (.each x it b) cx σ) Q:=by
 have hev:ex (.each x it b) cx σ=kZ v xs (fun u σ=>ex b cx (σ.set x u)) xs σ₁:=by
  rw [qXb,if_neg (by rw [hc]; decide),Rs.bind_ok he,hi]
 rw [hev]
 exact qWv I h0 hst hb hend
end
section
variable {cx:Sx} {σ σ₁ σ₂:St} {Q:Fl→St→Prop}
theorem xX {o:X} {f:Str} {e:X} {v vo:V} {H:Hp} (he:ev cx.toCx e σ=.ok v σ₁) (ho:ev cx.toCx o σ₁=.ok vo σ₂) (hs:cx.setA vo f v σ₂.toHp=some H) (h:Q .next { σ₂ with toHp:=H }):Gd (ex (.setA o f e) cx σ) Q:=by
 refine ⟨_,_,(Rs.bind_ok he:_).trans ((Rs.bind_ok ho:_).trans ?_),h⟩
 show zZ ((cx.setA vo f v σ₂.toHp).map _)=_
 rw [hs]; rfl
end
theorem Str.eq_of {a b:PySem.Str} (h:a.cps.toList=b.cps.toList):a=b:=by
 cases a; cases b; simp only at h; congr; exact Array.toList_inj.mp h
theorem Str.beq_list (a b:PySem.Str):(a == b)=(a.cps.toList == b.cps.toList):=by
 by_cases h:a=b
 ·subst h; simp
 ·have:a.cps.toList≠b.cps.toList:=fun q=>h (Str.eq_of q)
  rw [beq_eq_false_iff_ne.mpr h,beq_eq_false_iff_ne.mpr this]
section
variable {H:Hp} {a b:Int} {x y:PySem.Str}
theorem zNt:wE H .Eq (.int a) (.int b)=.ok (.bool (a == b)):=rfl
theorem zNr:wE H .NotEq (.int a) (.int b)=.ok (.bool (a != b)):=rfl
theorem zNs:wE H .Eq (.str x) (.str y)=.ok (.bool (x.cps.toList == y.cps.toList)):=by
 rw [← Str.beq_list]; rfl
theorem zNq:wE H .NotEq (.str x) (.str y)=.ok (.bool (x.cps.toList != y.cps.toList)):=by
 show Ov.ok (.bool (!(x == y)))=_
 rw [Str.beq_list]; rfl
end
section
variable {cx:Sx} {σ σ₁ σ₂ σ₃:St} {Q:Fl→St→Prop}
theorem gd_brk (h:Q .brk σ):Gd (ex .brk cx σ) Q:=⟨_,_,rfl,h⟩
theorem yX (h:Q .cont σ):Gd (ex .cont cx σ) Q:=⟨_,_,rfl,h⟩
theorem qFl (h:Q (.ret .none) σ):Gd (ex .ret0 cx σ) Q:=⟨_,_,rfl,h⟩
theorem zEy {x y:Str} {e:X} {v:V} (he:ev cx.toCx e σ=.ok v σ₁) (h:Q .next ((σ₁.set x v).set y v)):Gd (ex (.asgs x y e) cx σ) Q:=⟨_,_,(Rs.bind_ok he:_),h⟩
theorem zEz {x:Str} {e:X} {v:V} (he:ev cx.toCx e σ=.ok v σ₁) (hs:σ₁.setC x v=some σ₂) (h:Q .next σ₂):Gd (ex (.asgC x e) cx σ) Q:=by
 refine ⟨_,σ₂,(Rs.bind_ok he:_).trans ?_,h⟩
 show zZ (σ₁.setC x v)=_
 rw [hs]; rfl
theorem qDz {e:X} {v:V} (he:ev cx.toCx e σ=.ok v σ₁) (ht:zT σ₁.toHp v=some true) (h:Q .next σ₁):Gd (ex (.assert e) cx σ) Q:=by
 refine ⟨.next,σ₁,(Rs.bind_ok he:_).trans ?_,h⟩
 unfold condS; rw [ht]
theorem zEv {o:X} {f x:Str} {e:X} {xs:List V} {vo:V} {H:Hp} (he:ev cx.toCx e σ=.ok (.list xs) σ₁) (ho:ev cx.toCx o (σ₁.add (.list xs))=.ok vo σ₂) (hs:cx.setA vo f (.ref σ₁.nxt) σ₂.toHp=some H) (h:Q .next (({ σ₂ with toHp:=H }:St).set x (.ref σ₁.nxt))):Gd (ex (.ownA o f x e) cx σ) Q:=by
 refine ⟨.next,_,(Rs.bind_ok he:_).trans ((Rs.bind_ok ho:_).trans ?_),h⟩
 show zZ ((cx.setA vo f (.ref σ₁.nxt) σ₂.toHp).map _)=_
 rw [hs]; rfl
theorem qWu {o:X} {f:Str} {o':X} {f':Str} {e:X} {a b vo vo':V} {H H':Hp} {σ₄:St} (he:ev cx.toCx e σ=.ok (.tup [a,b]) σ₁) (ho:ev cx.toCx o σ₁=.ok vo σ₂) (hs:cx.setA vo f a σ₂.toHp=some H)
  (ho':ev cx.toCx o' { σ₂ with toHp:=H }=.ok vo' σ₄) (hs':cx.setA vo' f' b σ₄.toHp=some H') (h:Q .next { σ₄ with toHp:=H' }):Gd (ex (.setA2 o f o' f' e) cx σ) Q:=by
 refine ⟨.next,_,?_,h⟩
 rw [qRe,Rs.bind_ok he]
 show (ev cx.toCx o σ₁).bind _=_
 rw [Rs.bind_ok ho,hs]
 show (ev cx.toCx o' { σ₂ with toHp:=H }).bind _=_
 rw [Rs.bind_ok ho',hs']
 rfl
theorem zMh {x tn:Str} {ps:List (Str×Str)} {b:S} {v v':Str} {vt:V} {f:Nat→Nat} (hv:σ.loc.lookup x=some (.str v)) (hg:cx.gl tn=some vt) (ht:cx.tr vt=some f) (hs:qJw f ps v=some v') (h:Gd (ex b cx (σ.set x (.str v'))) Q):Gd (ex (.sq x tn ps b) cx σ) Q:=by
 have e:ex (.sq x tn ps b) cx σ=ex b cx (σ.set x (.str v')):=by
  rw [zKm,hv]
  show (cx.gl tn).elim Rs.bad _=_
  rw [hg]
  show (cx.tr vt).elim Rs.bad _=_
  rw [ht]
  show (qJw f ps v).elim Rs.bad _=_
  rw [hs]; rfl
 rw [e]; exact h
theorem zEx {x:Str} {k:Nat} {y:V} {ys:List V} (hx:σ.loc.lookup x=some (.ref k)) (ho:σ.obj k=some (.list (y::ys))) (h:Q .next { σ with obj:=fun j=>if j=k then some (.list (y::ys).dropLast) else σ.obj j }):Gd (ex (.delL x) cx σ) Q:=by
 refine ⟨.next,_,?_,h⟩
 show qRv x σ=_
 unfold qRv
 rw [hx]
 dsimp only
 rw [ho]
end
end Mine.Lake
end
noncomputable section
namespace Mine.Lake.Rp
open PySem
theorem jB {y z:List Nat} (hz:z.length≤1):∀ (l:List Nat) (k:Nat),(rp y z k l).length≤l.length
 | [],k=>by cases k <;> exact Nat.le_refl _
 | c::l,0=>by
  by_cases h:(c::l).take y.length=y
  ·rw [show rp y z 0 (c::l)=z++rp y z (y.length - 1) l from if_pos h,List.length_append,List.length_cons]
   have:=jB (y:=y) hz l (y.length - 1)
   lia
  ·rw [show rp y z 0 (c::l)=c::rp y z 0 l from if_neg h,List.length_cons,List.length_cons]
   exact Nat.succ_le_succ (jB hz l 0)
 | c::l,k+1=>Nat.le_succ_of_le (jB hz l k)
theorem qEv {y z:List Nat} {a:Nat}:∀ (l:List Nat) (k:Nat),a∈rp y z k l→a∈z∨a∈l
 | [],k,h=>by cases k <;> cases h
 | c::l,0,h=>by
  by_cases hc:(c::l).take y.length=y
  ·rw [show rp y z 0 (c::l)=z++rp y z (y.length - 1) l from if_pos hc,List.mem_append] at h
   rcases h with h | h
   ·exact .inl h
   ·exact (qEv l _ h).imp id (.tail _)
  ·rw [show rp y z 0 (c::l)=c::rp y z 0 l from if_neg hc,List.mem_cons] at h
   rcases h with h | h
   ·exact .inr (h ▸ .head _)
   ·exact (qEv l _ h).imp id (.tail _)
 | c::l,k+1,h=>(qEv l k h).imp id (.tail _)
noncomputable def first (p:List Nat):List Nat:=lastp (four p)
end Mine.Lake.Rp
end
noncomputable section
namespace Mine.Lake.Rp
open PySem PySem.W
noncomputable def small (v:Str):Prop:=(∀ c∈v.cps.toList,c < 128)∧v.length≤1000
theorem qGz {v:Str} (h:∀ c∈v.cps.toList,c < 128):PyData.strOk v=true:=by
 unfold PyData.strOk
 rw [Array.all_eq_true']
 intro c hc
 have:=h c (Array.mem_toList_iff.mpr hc)
 exact decide_eq_true (by lia)
theorem jV {v:Str} (hv:small v) {y z:List Nat} (hy:y≠[]) (hz:z.length≤1) (hz2:∀ c∈z,c < 128) :
  qBq v ⟨y.toArray⟩ ⟨z.toArray⟩=true∧small (Txt.replace v ⟨y.toArray⟩ ⟨z.toArray⟩)∧(Txt.replace v ⟨y.toArray⟩ ⟨z.toArray⟩).cps.toList=rp y z 0 v.cps.toList:=by
 obtain ⟨h1,h2⟩:=hv
 have e:=qKo (x:=v) (z:=z) hy
 have hlen:(Txt.replace v ⟨y.toArray⟩ ⟨z.toArray⟩).length≤v.length:=by
  have h3:(Txt.replace v ⟨y.toArray⟩ ⟨z.toArray⟩).cps.toList.length≤v.cps.toList.length:=by rw [e]; exact jB hz _ _
  rw [Array.length_toList,Array.length_toList] at h3
  exact h3
 have hs:∀ c∈(Txt.replace v ⟨y.toArray⟩ ⟨z.toArray⟩).cps.toList,c < 128:=by
  intro c hc
  rw [e] at hc
  rcases qEv _ _ hc with q | q
  ·exact hz2 c q
  ·exact h1 c q
 have hzl:(⟨z.toArray⟩:Str).length≤1:=by
  show z.toArray.size≤1
  rw [List.size_toArray]; exact hz
 refine ⟨?_,⟨hs,by lia⟩,e⟩
 unfold qBq
 rw [qGz hs,Bool.and_true,Bool.and_eq_true]
 refine ⟨decide_eq_true ?_,decide_eq_true ?_⟩
 ·have:(v.length+1) * (⟨z.toArray⟩:Str).length≤(v.length+1) * 1:=Nat.mul_le_mul_left _ hzl
  lia
 ·have:(1000:Nat)≤sizeLine:=by decide
  lia
theorem vU {a b:Str} {r:List (Str×Str)} {v:Str} (h:qBq v a b=true):qBp ((a,b)::r) v=qBp r (Txt.replace v a b):=if_pos h
noncomputable def zIg:List (Str×Str):=[("xxxxxxxx", "x"),("xxxx", "x"),("xx", "x"),("xx", "x"),("\nx", "\n")]
theorem zBh:zIg=[(⟨([120,120,120,120,120,120,120,120]:List Nat).toArray⟩,⟨([120]:List Nat).toArray⟩),(⟨([120,120,120,120]:List Nat).toArray⟩,⟨([120]:List Nat).toArray⟩),(⟨([120,120]:List Nat).toArray⟩,⟨([120]:List Nat).toArray⟩),(⟨([120,120]:List Nat).toArray⟩,⟨([120]:List Nat).toArray⟩),(⟨([10,120]:List Nat).toArray⟩,⟨([10]:List Nat).toArray⟩)]:=by decide +kernel
theorem zHo {f:Nat→Nat} (hf:∀ c,c < 128→f c < 128) {v:Str} (hv:small v):∃ v',qJw f zIg v=some v'∧v'.cps.toList=lastp (four (v.cps.toList.map f)):=by
 have hm:∀ c∈(kJ f v).cps.toList,c < 128:=by
  intro c hc
  have hc':c∈v.cps.toList.map f:=hc
  obtain ⟨d,h1,rfl⟩:=List.mem_map.mp hc'
  exact hf d (hv.1 d h1)
 have hl:(kJ f v).length=v.length:=by
  show (v.cps.toList.map f).toArray.size=v.cps.size
  rw [List.size_toArray,List.length_map,Array.length_toList]
 have s0:small (kJ f v):=⟨hm,by rw [hl]; exact hv.2⟩
 have ht:trOk f v=true:=by
  unfold trOk
  rw [qGz hm,Bool.and_true,List.all_eq_true]
  exact fun c hc=>decide_eq_true (hv.1 c hc)
 have hx:∀ c∈([120]:List Nat),c < 128:=by decide
 obtain ⟨r1,s1,e1⟩:=jV s0 (y:=[120,120,120,120,120,120,120,120]) (z:=[120]) (by decide) (by decide) hx
 obtain ⟨r2,s2,e2⟩:=jV s1 (y:=[120,120,120,120]) (z:=[120]) (by decide) (by decide) hx
 obtain ⟨r3,s3,e3⟩:=jV s2 (y:=[120,120]) (z:=[120]) (by decide) (by decide) hx
 obtain ⟨r4,s4,e4⟩:=jV s3 (y:=[120,120]) (z:=[120]) (by decide) (by decide) hx
 obtain ⟨r5,s5,e5⟩:=jV s4 (y:=[10,120]) (z:=[10]) (by decide) (by decide) (by decide)
 refine ⟨Txt.replace _ ⟨([10,120]:List Nat).toArray⟩ ⟨([10]:List Nat).toArray⟩,?_,e5.trans ?_⟩
 ·unfold qJw
  rw [if_pos ht,zBh,vU r1,vU r2,vU r3,vU r4,vU r5]
  rfl
 ·rw [e4,e3,e2,e1]
  rfl
end Mine.Lake.Rp
end
noncomputable section
namespace Mine.Lake.Rp
open PySem
structure Mk where
 level:Nat
 lno:Nat
 gl:List Nat
 cont:Nat
deriving DecidableEq
set_option genCtorIdx true in
inductive Md where
 | out
 | txt (q w first:Nat)
noncomputable def zU (q w:Nat):List Nat:=List.replicate (w+1) q
noncomputable def Mk.line (m:Mk):Mk:={ m with lno:=m.lno+1,gl:=if m.level=0 then m.gl++[m.lno+1] else m.gl }
noncomputable def scan:Nat→Md→List Nat→Mk→Option Mk
 | 0,_,_,_=>none
 | _+1,.out,[],m=>some m
 | n+1,.out,c::l,m =>
  if c=120 then scan n .out l m
  else if c=10 then scan n .out l m.line
  else if c=40 then scan n .out l { m with level:=m.level+1 }
  else if c=41 then scan n .out l { m with level:=m.level - 1 }
  else if c=34∨c=39 then (if (c::l).take 3=[c,c,c] then scan n (.txt c 2 m.lno) (l.drop 2) m else scan n (.txt c 0 m.lno) l m)
  else if c=35 then (if 10∈l then scan n .out (l.dropWhile (·≠10)) m else none)
  else if c=92 then (match l with
   | []=>none
   | d::l=>scan n .out l (if d=10 then { m with lno:=m.lno+1,cont:=if l=[] then 1 else m.cont } else m))
  else none
 | n+1,.txt _ _ first,[],m=>scan n .out [] { m with cont:=if m.lno=first+1 then 2 else 3 }
 | n+1,.txt q w first,c::l,m =>
  if c=120 then scan n (.txt q w first) l m
  else if (c::l).take (w+1)=zU q w then scan n .out (l.drop w) m
  else if c=10 then (if w=0 then scan n .out l m.line else scan n (.txt q w first) l { m with lno:=m.lno+1 })
  else if c=92 then (match l with
   | []=>none
   | d::l=>scan n (.txt q w first) l (if d=10 then { m with lno:=m.lno+1 } else m))
  else scan n (.txt q w first) l m
noncomputable def ends (m:Mk):Option (List Nat×Nat) :=
 let c:=if m.cont≠2∧m.cont≠3∧0 < m.level then 4 else m.cont
 if decide (c=0)=decide (m.gl.getLast? = some m.lno) then some (if m.gl.getLast? = some m.lno then m.gl else m.gl++[m.lno],c) else none
noncomputable def study (l:List Nat):Option (List Nat×Nat):=(scan 1000 .out l ⟨0,0,[0],0⟩).bind ends
end Mine.Lake.Rp
end
noncomputable section
namespace Mine.Lake
open PySem PySem.W PyProof.Rows
theorem qE {σ:St} {x:Str} {v:V}:(σ.set x v).loc.lookup x=some v:=by
 show (wU x v σ.loc).lookup x=_
 rw [zA,if_pos rfl]
theorem qA {σ:St} {x y:Str} {v:V} {o:Option V} (hne:(y == x)=false) (h:σ.loc.lookup y=o):(σ.set x v).loc.lookup y=o:=by
 show (wU x v σ.loc).lookup y=_
 rw [zA,if_neg (fun q=>by rw [q] at hne; simp at hne),h]
section
variable {cx:Cx} {σ:St}
theorem qB {x:Str} {v:V} (h:σ.loc.lookup x=some v):ev cx (.var x) σ=.ok v σ:=by rw [zFe,h]
theorem qP {x:Str} {v:V} (h:cx.gl x=some v):ev cx (.glob x) σ=.ok v σ:=by rw [qXf,h]
theorem yM {op:Operator} {a b:X} {x y v:V} (ha:ev cx a σ=.ok x σ) (hb:ev cx b σ=.ok y σ) (h:qSd σ.toHp op x y=.ok v):ev cx (.bin op a b) σ=.ok v σ:=by
 rw [zFk,Rs.bind_ok ha,Rs.bind_ok hb,h]; rfl
theorem zG {a b:X} {x y:Int} (ha:ev cx a σ=.ok (.int x) σ) (hb:ev cx b σ=.ok (.int y) σ):ev cx (.bin .Add a b) σ=.ok (.int (x+y)) σ:=yM ha hb rfl
theorem jM {a b:X} {x y:Int} (ha:ev cx a σ=.ok (.int x) σ) (hb:ev cx b σ=.ok (.int y) σ):ev cx (.bin .Sub a b) σ=.ok (.int (x - y)) σ:=yM ha hb rfl
theorem kN {op:CmpOp} {a b:X} {x y v:V} (ha:ev cx a σ=.ok x σ) (hb:ev cx b σ=.ok y σ) (h:wE σ.toHp op x y=.ok v):ev cx (.cmp op a b) σ=.ok v σ:=by
 rw [qNq,Rs.bind_ok ha,Rs.bind_ok hb,h]; rfl
theorem jN {a b:X} {x y:Int} (ha:ev cx a σ=.ok (.int x) σ) (hb:ev cx b σ=.ok (.int y) σ):ev cx (.cmp .Eq a b) σ=.ok (.bool (x == y)) σ:=kN ha hb zNt
theorem qSt {a b:X} {x y:Int} (ha:ev cx a σ=.ok (.int x) σ) (hb:ev cx b σ=.ok (.int y) σ):ev cx (.cmp .NotEq a b) σ=.ok (.bool (x != y)) σ:=kN ha hb zNr
theorem qGf {a b:X} {x y:Int} (ha:ev cx a σ=.ok (.int x) σ) (hb:ev cx b σ=.ok (.int y) σ):ev cx (.cmp .Lt a b) σ=.ok (.bool (decide (x < y))) σ:=kN ha hb rfl
theorem qMe {a b:X} {x y:Int} (ha:ev cx a σ=.ok (.int x) σ) (hb:ev cx b σ=.ok (.int y) σ):ev cx (.cmp .Gt a b) σ=.ok (.bool (decide (x > y))) σ:=kN ha hb rfl
theorem jQ {a b:X} {x y:Int} (ha:ev cx a σ=.ok (.int x) σ) (hb:ev cx b σ=.ok (.int y) σ):ev cx (.cmp .GtE a b) σ=.ok (.bool (decide (x ≥ y))) σ:=kN ha hb rfl
theorem zLo {a b:X} {x y:Bool} (ha:ev cx a σ=.ok (.bool x) σ) (hb:ev cx b σ=.ok (.bool y) σ):ev cx (.cmp .Eq a b) σ=.ok (.bool (x == y)) σ:=kN ha hb (by cases x <;> cases y <;> rfl)
theorem yK {a b:X} {x y:Str} (ha:ev cx a σ=.ok (.str x) σ) (hb:ev cx b σ=.ok (.str y) σ):ev cx (.cmp .Eq a b) σ=.ok (.bool (x.cps.toList == y.cps.toList)) σ:=kN ha hb zNs
theorem zLn {a b:X} {x y:Str} (ha:ev cx a σ=.ok (.str x) σ) (hb:ev cx b σ=.ok (.str y) σ):ev cx (.cmp .NotEq a b) σ=.ok (.bool (x.cps.toList != y.cps.toList)) σ:=kN ha hb zNq
theorem qJa {a b:X} {p q:Bool} (ha:ev cx a σ=.ok (.bool p) σ) (hb:p=false→ev cx b σ=.ok (.bool q) σ):ev cx (.or a b) σ=.ok (.bool (p || q)) σ:=by
 rw [qXd,Rs.bind_ok ha]
 cases p with
 | true=>rfl
 | false=>exact hb rfl
theorem qGg {a b:X} {p q:Bool} (ha:ev cx a σ=.ok (.bool p) σ) (hb:p=true→ev cx b σ=.ok (.bool q) σ):ev cx (.and a b) σ=.ok (.bool (p && q)) σ:=by
 rw [qFq,Rs.bind_ok ha]
 cases p with
 | true=>exact hb rfl
 | false=>rfl
theorem xZ {a i:X} {x y v:V} (ha:ev cx a σ=.ok x σ) (hi:ev cx i σ=.ok y σ) (h:jK σ.toHp x y=.ok v):ev cx (.idx a i) σ=.ok v σ:=by
 rw [zFj,Rs.bind_ok ha,Rs.bind_ok hi,h]; rfl
theorem yJ {a lo hi:X} {x l h v:V} (ha:ev cx a σ=.ok x σ) (hl:ev cx lo σ=.ok l σ) (hh:ev cx hi σ=.ok h σ) (hv:yA σ.toHp x l h=.ok v):ev cx (.slc a lo hi) σ=.ok v σ:=by
 rw [zFg,Rs.bind_ok ha,Rs.bind_ok hl,Rs.bind_ok hh,hv]; rfl
theorem zR {o:X} {f:Str} {x v:V} (ho:ev cx o σ=.ok x σ) (h:cx.fld x f σ.toHp=.ok v):ev cx (.attr o f) σ=.ok v σ:=by
 rw [qXi,Rs.bind_ok ho,h]; rfl
theorem uV {i:Int}:ev cx (.neg (.int i)) σ=.ok (.int (-i)) σ:=rfl
theorem qD {a b:X} {x:V} {xs:List V} (ha:ev cx a σ=.ok x σ) (hb:ev cx b σ=.ok (.list xs) σ):ev cx (.cons a b) σ=.ok (.list (x::xs)) σ:=by
 rw [qId,Rs.bind_ok ha,Rs.bind_ok hb]; rfl
theorem vI {es:X} {xs:List V} (h:ev cx es σ=.ok (.list xs) σ) (hl:xs.length≤sizeLine):ev cx (.list es) σ=.ok (.list xs) σ:=by
 rw [qIc,Rs.bind_ok h]; exact if_pos hl
theorem qDf {es:X} {xs:List V} (h:ev cx es σ=.ok (.list xs) σ) (hl:xs.length≤sizeLine):ev cx (.tup es) σ=.ok (.tup xs) σ:=by
 rw [zFf,Rs.bind_ok h]; exact if_pos hl
theorem zN {f as:X} {vf v:V} {xs:List V} {σ':St} (hf:ev cx f σ=.ok vf σ) (ha:ev cx as σ=.ok (.list xs) σ) (h:cx.app vf xs σ.toHp=.ok v σ'):ev cx (.call f as) σ=.ok v { σ with toHp:=σ'.toHp }:=by
 rw [qIe,Rs.bind_ok hf,Rs.bind_ok ha]
 show (cx.app vf xs σ.toHp).lift σ=_
 rw [h]; rfl
theorem zD {o as:X} {m:Str} {vo vf v:V} {first xs:List V} {σ':St} (ho:ev cx o σ=.ok vo σ) (hg:cx.get vo m σ.toHp=some (vf,first)) (ha:ev cx as σ=.ok (.list xs) σ) (h:cx.app vf (first++xs) σ.toHp=.ok v σ'):ev cx (.meth o m as) σ=.ok v { σ with toHp:=σ'.toHp }:=by
 rw [qXe,Rs.bind_ok ho,hg]
 show (ev cx as σ).bind _=_
 rw [Rs.bind_ok ha]
 show (cx.app vf (first++xs) σ.toHp).lift σ=_
 rw [h]; rfl
end
section
variable {cx:Sx} {σ σ₁:St} {Q:Fl→St→Prop}
noncomputable def qAp (b:S) (cx:Sx) (Q:Fl→St→Prop) (f:Fl) (σ₁:St):Prop:=match f with | .next=>Gd (ex b cx σ₁) Q | f=>Q f σ₁
theorem zX {a b:S} (h:Gd (ex a cx σ) (qAp b cx Q)):Gd (ex (.seq a b) cx σ) Q:=qF (h.mono fun f _ q=>by cases f <;> exact q)
theorem qNm {e:X} {a b c:S} {t:Bool} (he:ev cx.toCx e σ=.ok (.bool t) σ₁) (h1:t=true→Gd (ex a cx σ₁) (qAp c cx Q)) (h2:t=false→Gd (ex b cx σ₁) (qAp c cx Q)):Gd (ex (.seq (.ite e a b) c) cx σ) Q :=
 zX (vP he (by cases t <;> rfl) h1 h2)
theorem qJ {e:X} {a c:S} {t:Bool} (he:ev cx.toCx e σ=.ok (.bool t) σ) (h1:t=true→Gd (ex a cx σ) (qAp c cx Q)) (h2:t=false→Gd (ex c cx σ) Q):Gd (ex (.seq (.ite e a .nil) c) cx σ) Q :=
 qNm he h1 fun q=>qG (h2 q)
theorem xA (h:Q .cont σ):Gd (ex (.seq .cont .nil) cx σ) Q:=qF (yX h)
theorem gd_sasg {x:Str} {e:X} {c:S} {v:V} (he:ev cx.toCx e σ=.ok v σ₁) (h:Gd (ex c cx (σ₁.set x v)) Q):Gd (ex (.seq (.asg x e) c) cx σ) Q:=qF (zKl he h)
theorem zQ {e:X} {c:S} {v:V} (he:ev cx.toCx e σ=.ok v σ₁) (h:Gd (ex c cx σ₁) Q):Gd (ex (.seq (.expr e) c) cx σ) Q:=qF (zEw he h)
theorem qW {e:X} {c:S} (he:ev cx.toCx e σ=.ok (.bool true) σ) (h:Gd (ex c cx σ) Q):Gd (ex (.seq (.assert e) c) cx σ) Q:=qF (qDz he rfl h)
end
section
variable {x:Str} {p c:Nat} {l:List Nat} {H:Hp}
theorem vG (h:x.cps.toList.drop p=c::l):p < x.length:=by
 have h2:=congrArg List.length h
 rw [List.length_drop,Array.length_toList,List.length_cons] at h2
 have:x.length=x.cps.size:=rfl
 lia
theorem kF (h:x.cps.toList.drop p=c::l):x.cps.toList.drop (p+1)=l:=by rw [← List.drop_drop,h]; rfl
theorem qAy (h:x.cps.toList.drop p=c::l):x.cps[p]? = some c:=by
 have:(x.cps.toList.drop p)[0]? = some c:=by rw [h]; rfl
 rw [List.getElem?_drop,Nat.add_zero,Array.getElem?_toList] at this
 exact this
theorem vZ (hp:p≤x.length) (h:x.cps.toList.drop p=l):l.length+p=x.length:=by
 rw [← h,List.length_drop,Array.length_toList]
 have:x.length=x.cps.size:=rfl
 lia
theorem qIj (hp:p≤x.length) (h:x.cps.toList.drop p=[]):p=x.length:=by
 have:=vZ hp h
 rw [List.length_nil] at this; lia
theorem jL {i:Int} (h1 : -1000≤i) (h2:i≤1000):xO i=true:=by
 unfold xO
 rw [Bool.and_eq_true]
 exact ⟨decide_eq_true (by lia),decide_eq_true (by lia)⟩
theorem yP {i n:Nat} (h:i < n):seqIndex? (i:Int) n=some i:=by
 have e:(if (i:Int) < 0 then (i:Int)+n else i)=i:=if_neg (by lia)
 unfold seqIndex?
 rw [e]
 exact (if_pos (by rw [Bool.and_eq_true]; exact ⟨decide_eq_true (by lia),decide_eq_true (by lia)⟩)).trans (congrArg some (Int.toNat_natCast i))
theorem qLa (hs:x.length≤1000) (h:x.cps.toList.drop p=c::l):jK H (.str x) (.int (p:Nat))=.ok (.str ⟨#[c]⟩) :=
 qNj (jL (by lia) (by have:=vG h; lia)) (yP (vG h)) (qAy h)
theorem qYh (a b:Nat):((min a b:Nat):Int)=min (a:Int) b:=by
 rcases Nat.le_total a b with h | h
 ·rw [Nat.min_eq_left h,Int.min_eq_left (Int.ofNat_le.mpr h)]
 ·rw [Nat.min_eq_right h,Int.min_eq_right (Int.ofNat_le.mpr h)]
theorem uD (n i:Nat):clipAt n (i:Int)=min i n:=by
 unfold clipAt
 rw [if_neg (Int.not_lt.mpr (Int.natCast_nonneg i)),← qYh,Int.max_eq_right (Int.natCast_nonneg _),Int.toNat_natCast]
theorem qYc {α:Type} (xs:List α) {p t:Nat} (hp:p≤xs.length):cut xs (some (p:Int)) (some ((p+t:Nat):Int))=(xs.drop p).take t:=by
 unfold cut
 show (xs.drop (clipAt xs.length (p:Int))).take (clipAt xs.length ((p+t:Nat):Int) - clipAt xs.length (p:Int))=_
 rw [uD,uD,Nat.min_eq_left hp]
 by_cases h:p+t≤xs.length
 ·rw [Nat.min_eq_left h,Nat.add_sub_cancel_left]
 ·rw [Nat.min_eq_right (by lia),List.take_of_length_le (by rw [List.length_drop]; exact Nat.le_refl _),List.take_of_length_le (by rw [List.length_drop]; lia)]
theorem zHn {t:Nat} (hp:p≤x.length):yA H (.str x) (.int (p:Nat)) (.int ((p+t:Nat):Int))=.ok (.str ⟨((x.cps.toList.drop p).take t).toArray⟩):=by
 show Ov.ok (.str ⟨(cut x.cps.toList (some ((p:Nat):Int)) (some ((p+t:Nat):Int))).toArray⟩)=_
 rw [qYc _ (by rw [Array.length_toList]; exact hp)]
open PySem.StrLaws PySem.Builtin PySem.Builtin.Str in
theorem at_nl {i:Nat}:At x ⟨#[10]⟩ x.length i ↔ x.cps[i]? = some 10:=by
 unfold At
 rw [subAt_eq]
 constructor
 ·rintro ⟨h1,h2⟩
  have h2':(x.cps.toList.drop i).take 1=[10]:=eq_of_beq h2
  cases hd:x.cps.toList.drop i with
  | nil=>rw [hd] at h2'; cases h2'
  | cons a l=>rw [hd] at h2'; cases h2'; exact qAy hd
 ·intro h
  have hlt:i < x.cps.size:=(Array.getElem?_eq_some_iff.mp h).1
  refine ⟨hlt,?_⟩
  have hd:x.cps.toList.drop i=10::x.cps.toList.drop (i+1):=by
   have h':x.cps.toList[i]? = some 10:=by rw [Array.getElem?_toList]; exact h
   obtain ⟨hi,e⟩:=List.getElem?_eq_some_iff.mp h'
   rw [List.drop_eq_getElem_cons hi,e]
  rw [hd]; rfl
theorem qWw (n i:Nat):fromIndex n (i:Int)=i:=by
 unfold fromIndex
 rw [if_neg (Int.not_lt.mpr (Int.natCast_nonneg i)),Int.max_eq_right (Int.natCast_nonneg _),Int.toNat_natCast]
open PySem.StrLaws PySem.Builtin PySem.Builtin.Str in
theorem zFb (hp:p≤x.length) (h:x.cps.toList.drop p=l) (hm:10∈l):∃ q,Txt.find3 x ⟨#[10]⟩ (p:Nat)=(q:Nat)∧q < x.length∧x.cps.toList.drop q=l.dropWhile (·≠10):=by
 have hx:x.length=x.cps.size:=rfl
 have key:∀ (l:List Nat) (p:Nat),x.cps.toList.drop p=l→10∈l→∃ q,p≤q∧x.cps[q]? = some 10∧x.cps.toList.drop q=l.dropWhile (·≠10)∧∀ j,p≤j→j < q→x.cps[j]?≠some 10:=by
  intro l
  induction l with
  | nil=>intro p _ hm; cases hm
  | cons a l ih =>
   intro p h hm
   by_cases ha:a=10
   ·subst ha
    refine ⟨p,Nat.le_refl _,qAy h,?_,fun j h1 h2=>by lia⟩
    rw [h]; rfl
   ·obtain ⟨q,h1,h2,h3,h4⟩:=ih (p+1) (kF h) (by
     rcases List.mem_cons.mp hm with e | e
     ·exact absurd e.symm ha
     ·exact e)
    refine ⟨q,by lia,h2,?_,fun j j1 j2=>?_⟩
    ·rw [h3]
     rw [List.dropWhile_cons_of_pos (by simpa using ha)]
    ·by_cases hj:j=p
     ·subst hj; rw [qAy h]; exact fun e=>ha (Option.some.inj e)
     ·exact h4 j (by lia) j2
 obtain ⟨q,h1,h2,h3,h4⟩:=key l p h hm
 have hq:q < x.length:=(Array.getElem?_eq_some_iff.mp h2).1
 refine ⟨q,?_,hq,h3⟩
 unfold Txt.find3
 rw [qWw,occ_eq]
 rcases occ_first x ⟨#[10]⟩ x.length 1 (Nat.le_refl _) (List.range' p (x.length+1 - p)) p (fun i hi=>(List.mem_range'_1.mp hi).1) with ⟨_,hn⟩ | ⟨pre,a,post,e,h0,ha,hn⟩
 ·exact absurd (at_nl.mpr h2) (hn q (List.mem_range'_1.mpr ⟨h1,by lia⟩))
 ·have ha':=at_nl.mp ha
  have hpa:p≤a:=(List.mem_range'_1.mp (by rw [e]; exact List.mem_append_right _ (.head _))).1
  have haq:a=q:=by
   rcases Nat.lt_trichotomy a q with c | c | c
   ·exact absurd ha' (h4 a hpa c)
   ·exact c
   ·exfalso
    refine hn q ?_ (at_nl.mpr h2)
    have hqm:q∈pre++a::post:=by rw [← e]; exact List.mem_range'_1.mpr ⟨h1,by lia⟩
    rcases List.mem_append.mp hqm with m | m
    ·exact m
    ·have hs:List.Pairwise (· < ·) (pre++a::post):=by rw [← e]; exact List.pairwise_lt_range' ..
     rcases List.mem_cons.mp m with m | m
     ·lia
     ·have:=(List.pairwise_append.mp hs).2.1
      have:=(List.pairwise_cons.mp this).1 q m
      lia
  subst haq
  generalize (forIn (List.range' p (x.length+1 - p)) ((#[]:Array Nat),p) (occBody x ⟨#[10]⟩ x.length 1)).run.fst=arr at h0
  have h5:arr.toList[0]? = some a:=by rw [Array.getElem?_toList]; exact h0
  cases hL:arr.toList with
  | nil=>rw [hL] at h5; cases h5
  | cons b t=>rw [hL] at h5; cases h5; rfl
end
end Mine.Lake
end
noncomputable section
namespace Mine.Lake.L09
open PySem PySem.W PyProof.Rows Mine.Lake Mine.Lake.Rp
noncomputable def inB:S:=(.seq (.asg "ch" (.idx (.var "code") (.var "i"))) (.seq (.asg "i" (.bin .Add (.var "i") (.int 1))) (.seq (.ite (.cmp .Eq (.var "ch") (.str "x")) (.seq .cont .nil) .nil) (.seq (.ite (.cmp .Eq (.slc (.var "code") (.bin .Sub (.var "i") (.int 1)) (.bin .Add (.var "i") (.var "w"))) (.var "quote")) (.seq (.asg "i" (.bin .Add (.var "i") (.var "w"))) (.seq .brk .nil)) .nil) (.seq (.ite (.cmp .Eq (.var "ch") (.str "\n")) (.seq (.asg "lno" (.bin .Add (.var "lno") (.int 1))) (.seq (.ite (.cmp .Eq (.var "w") (.int 0)) (.seq (.ite (.cmp .Eq (.var "level") (.int 0)) (.seq (.expr (.call (.var "push_good") (.cons (.var "lno") .nil))) .nil) .nil) (.seq .brk .nil)) .nil) (.seq .cont .nil))) .nil) (.seq (.ite (.cmp .Eq (.var "ch") (.str "\\")) (.seq (.assert (.cmp .Lt (.var "i") (.var "n"))) (.seq (.ite (.cmp .Eq (.idx (.var "code") (.var "i")) (.str "\n")) (.seq (.asg "lno" (.bin .Add (.var "lno") (.int 1))) .nil) .nil) (.seq (.asg "i" (.bin .Add (.var "i") (.int 1))) (.seq .cont .nil)))) .nil) .nil))))))
noncomputable def inE:S:=(.seq (.ite (.cmp .Eq (.bin .Sub (.var "lno") (.int 1)) (.var "firstlno")) (.seq (.asg "continuation" (.glob "C_STRING_FIRST_LINE")) .nil) (.seq (.asg "continuation" (.glob "C_STRING_NEXT_LINES")) .nil)) .nil)
noncomputable def inL:S:=.loop 1000 (.cmp .Lt (.var "i") (.var "n")) inB inE
noncomputable def zLs:S:=(.seq (.asg "quote" (.var "ch")) (.seq (.ite (.cmp .Eq (.slc (.var "code") (.bin .Sub (.var "i") (.int 1)) (.bin .Add (.var "i") (.int 2))) (.bin .Mult (.var "quote") (.int 3))) (.seq (.asg "quote" (.bin .Mult (.var "quote") (.int 3))) .nil) .nil) (.seq (.asg "firstlno" (.var "lno")) (.seq (.asg "w" (.bin .Sub (.call (.glob "len") (.cons (.var "quote") .nil)) (.int 1))) (.seq (.asg "i" (.bin .Add (.var "i") (.var "w"))) (.seq inL (.seq .cont .nil)))))))
noncomputable def zIf:S:=(.seq (.ite (.cmp .Eq (.var "ch") (.str "#")) (.seq (.asg "i" (.meth (.var "code") "find" (.cons (.str "\n") (.cons (.var "i") .nil)))) (.seq (.assert (.cmp .GtE (.var "i") (.int 0))) (.seq .cont .nil))) .nil) (.seq (.assert (.cmp .Eq (.var "ch") (.str "\\"))) (.seq (.assert (.cmp .Lt (.var "i") (.var "n"))) (.seq (.ite (.cmp .Eq (.idx (.var "code") (.var "i")) (.str "\n")) (.seq (.asg "lno" (.bin .Add (.var "lno") (.int 1))) (.seq (.ite (.cmp .Eq (.bin .Add (.var "i") (.int 1)) (.var "n")) (.seq (.asg "continuation" (.glob "C_BACKSLASH")) .nil) .nil) .nil)) .nil) (.seq (.asg "i" (.bin .Add (.var "i") (.int 1))) .nil)))))
noncomputable def zIi:S:=(.seq (.asg "ch" (.idx (.var "code") (.var "i"))) (.seq (.asg "i" (.bin .Add (.var "i") (.int 1))) (.seq (.ite (.cmp .Eq (.var "ch") (.str "x")) (.seq .cont .nil) .nil) (.seq (.ite (.cmp .Eq (.var "ch") (.str "\n")) (.seq (.asg "lno" (.bin .Add (.var "lno") (.int 1))) (.seq (.ite (.cmp .Eq (.var "level") (.int 0)) (.seq (.expr (.call (.var "push_good") (.cons (.var "lno") .nil))) .nil) .nil) (.seq .cont .nil))) .nil) (.seq (.ite (.cmp .Eq (.var "ch") (.str "(")) (.seq (.asg "level" (.bin .Add (.var "level") (.int 1))) (.seq .cont .nil)) .nil) (.seq (.ite (.cmp .Eq (.var "ch") (.str ")")) (.seq (.ite (.var "level") (.seq (.asg "level" (.bin .Sub (.var "level") (.int 1))) .nil) .nil) (.seq .cont .nil)) .nil) (.seq (.ite (.or (.cmp .Eq (.var "ch") (.str "\"")) (.cmp .Eq (.var "ch") (.str "'"))) zLs .nil) zIf)))))))
noncomputable def zLv:S:=.loop 1000 (.cmp .Lt (.var "i") (.var "n")) zIi .nil
noncomputable def zMk:S:=(.seq (.ite (.and (.cmp .NotEq (.var "continuation") (.glob "C_STRING_FIRST_LINE")) (.and (.cmp .NotEq (.var "continuation") (.glob "C_STRING_NEXT_LINES")) (.cmp .Gt (.var "level") (.int 0)))) (.seq (.asg "continuation" (.glob "C_BRACKET")) .nil) .nil) (.seq (.setA (.var "self") "continuation" (.var "continuation")) (.seq (.assert (.cmp .Eq (.cmp .Eq (.var "continuation") (.glob "C_NONE")) (.cmp .Eq (.idx (.var "goodlines") (.neg (.int 1))) (.var "lno")))) (.seq (.ite (.cmp .NotEq (.idx (.var "goodlines") (.neg (.int 1))) (.var "lno")) (.seq (.expr (.call (.var "push_good") (.cons (.var "lno") .nil))) .nil) .nil) .nil))))
structure Bx (G:Prg) (cx:Sx):Prop where
 gl:cx.gl=G.gl
 bl:∀ i args H,cx.app (.top (.builtin i)) args H=bapp false i args H
 bd:∀ k x H,cx.app (.bnd k) [x] H=zY (.ref k) x H
 get:cx.get=qHy G
 fld:cx.fld=qLf G
 setA:cx.setA=qUh G
 tr:cx.tr=trV G
theorem qCl {G:Prg} {rows:Rows} {xr:XRow} {fI:Addr}:∀ n,Bx G (tower G rows xr fI n)
 | 0=>⟨rfl,fun _ _ _=>rfl,fun _ _ _=>rfl,rfl,rfl,rfl,rfl⟩
 | 1=>⟨rfl,fun _ _ _=>rfl,fun _ _ _=>rfl,rfl,rfl,rfl,rfl⟩
 | _+2=>⟨rfl,fun _ _ _=>rfl,fun _ _ _=>rfl,rfl,rfl,rfl,rfl⟩
noncomputable def hput (H:Hp) (k:Nat) (o:O):Hp:={ H with obj:=fun j=>if j=k then some o else H.obj j }
noncomputable def qI (l:List Nat):List V:=l.map fun n=>.int (n:Nat)
theorem vF {H:Hp} {k:Nat} {o:O}:(hput H k o).obj k=some o:=if_pos rfl
theorem zK {H:Hp} {k j:Nat} {o:O} (h:j≠k):(hput H k o).obj j=H.obj j:=if_neg h
theorem qHx {H:Hp} {k:Nat} {a b:O}:hput (hput H k a) k b=hput H k b:=by
 unfold hput
 refine congrArg (fun o=>Hp.mk o H.nxt) (funext fun j=>?_)
 show (if j=k then some b else if j=k then some a else H.obj j)=if j=k then some b else H.obj j
 split <;> rfl
structure B1 (x:PySem.Str) (k j:Nat) (H:Hp) (p:Nat) (m:Mk) (σ:St):Prop where
 self:σ.loc.lookup ("self" : PySem.Str)=some (.ref k)
 code:σ.loc.lookup ("code" : PySem.Str)=some (.str x)
 cont:σ.loc.lookup ("continuation" : PySem.Str)=some (.int (m.cont:Nat))
 lev:σ.loc.lookup ("level" : PySem.Str)=some (.int (m.level:Nat))
 lno:σ.loc.lookup ("lno" : PySem.Str)=some (.int (m.lno:Nat))
 good:σ.loc.lookup ("goodlines" : PySem.Str)=some (.ref j)
 push:σ.loc.lookup ("push_good" : PySem.Str)=some (.bnd j)
 i:σ.loc.lookup ("i" : PySem.Str)=some (.int (p:Nat))
 n:σ.loc.lookup ("n" : PySem.Str)=some (.int (x.length:Nat))
 hp:σ.toHp=hput H j (.list (qI m.gl))
structure Qs (q w first:Nat) (l:List (PySem.Str×V)):Prop where
 quote:l.lookup ("quote" : PySem.Str)=some (.str ⟨(zU q w).toArray⟩)
 w:l.lookup ("w" : PySem.Str)=some (.int (w:Nat))
 first:l.lookup ("firstlno" : PySem.Str)=some (.int (first:Nat))
noncomputable def qKv:List PySem.Str:=["self", "code", "continuation", "level", "lno", "goodlines", "push_good", "i", "n"]
noncomputable def qVo:List PySem.Str:=["ch", "quote", "firstlno", "w"]
noncomputable def zJy:List PySem.Str:=["quote", "firstlno", "w"]
theorem zGf:∀ y∈qVo,∀ z∈qKv,(z == y)=false:=by decide +kernel
theorem zGe:∀ y∈("ch" : PySem.Str)::qKv,∀ z∈zJy,(z == y)=false:=by decide +kernel
section
variable {x:PySem.Str} {k j p q w first:Nat} {H:Hp} {m:Mk} {σ:St}
theorem B1.oth (h:B1 x k j H p m σ) {y:PySem.Str} (hy:y∈qVo) {v:V}:B1 x k j H p m (σ.set y v):=by
 have a:=zGf y hy
 exact ⟨qA (a _ (by decide)) h.self,qA (a _ (by decide)) h.code,qA (a _ (by decide)) h.cont,qA (a _ (by decide)) h.lev,qA (a _ (by decide)) h.lno,qA (a _ (by decide)) h.good,qA (a _ (by decide)) h.push,qA (a _ (by decide)) h.i,qA (a _ (by decide)) h.n,h.hp⟩
theorem B1.seti (h:B1 x k j H p m σ) {i:Int} (hi:i=(q:Nat)):B1 x k j H q m (σ.set "i" (.int i)):=by
 subst hi
 exact ⟨qA (by decide) h.self,qA (by decide) h.code,qA (by decide) h.cont,qA (by decide) h.lev,qA (by decide) h.lno,qA (by decide) h.good,qA (by decide) h.push,qE,qA (by decide) h.n,h.hp⟩
theorem B1.setcont (h:B1 x k j H p m σ) {i:Int} (hi:i=(q:Nat)):B1 x k j H p { m with cont:=q } (σ.set "continuation" (.int i)):=by
 subst hi
 exact ⟨qA (by decide) h.self,qA (by decide) h.code,qE,qA (by decide) h.lev,qA (by decide) h.lno,qA (by decide) h.good,qA (by decide) h.push,qA (by decide) h.i,qA (by decide) h.n,h.hp⟩
theorem B1.setlev (h:B1 x k j H p m σ) {i:Int} (hi:i=(q:Nat)):B1 x k j H p { m with level:=q } (σ.set "level" (.int i)):=by
 subst hi
 exact ⟨qA (by decide) h.self,qA (by decide) h.code,qA (by decide) h.cont,qE,qA (by decide) h.lno,qA (by decide) h.good,qA (by decide) h.push,qA (by decide) h.i,qA (by decide) h.n,h.hp⟩
theorem B1.setlno (h:B1 x k j H p m σ) {i:Int} (hi:i=(q:Nat)):B1 x k j H p { m with lno:=q } (σ.set "lno" (.int i)):=by
 subst hi
 exact ⟨qA (by decide) h.self,qA (by decide) h.code,qA (by decide) h.cont,qA (by decide) h.lev,qE,qA (by decide) h.good,qA (by decide) h.push,qA (by decide) h.i,qA (by decide) h.n,h.hp⟩
theorem B1.setgl (h:B1 x k j H p m σ) {gl:List Nat}:B1 x k j H p { m with gl:=gl } { σ with toHp:=hput H j (.list (qI gl)) } :=
 ⟨h.self,h.code,h.cont,h.lev,h.lno,h.good,h.push,h.i,h.n,rfl⟩
theorem Qs.oth (h:Qs q w first σ.loc) {y:PySem.Str} (hy:y∈("ch" : PySem.Str)::qKv) {v:V}:Qs q w first (σ.set y v).loc:=by
 have a:=zGe y hy
 exact ⟨qA (a _ (by decide)) h.quote,qA (a _ (by decide)) h.w,qA (a _ (by decide)) h.first⟩
end
theorem uE {c:Bool} {a:V} {H:Hp}:bapp c "len" [a] H=qHo a H:=by unfold bapp; rw [if_pos rfl]; rfl
theorem qSh {c:Bool} {a b d:V} {H:Hp}:bapp c "str.find" [a,b,d] H=qIb a b d H:=by
 unfold bapp
 rw [if_neg (by decide),if_neg (by decide),if_neg (by decide),if_pos rfl]
 exact if_neg (by show ¬ (3:Nat)=4; decide)
section
variable {cx:Sx} {G:Prg} {σ:St} {Q:Fl→St→Prop} {x:PySem.Str} {k j p:Nat} {H:Hp} {m:Mk}
theorem qZk {cx:Cx} {c d:Nat} {z:PySem.Str} (hz:z=⟨#[d]⟩) (h:σ.loc.lookup ("ch" : PySem.Str)=some (.str ⟨#[c]⟩)):ev cx (.cmp .Eq (.var "ch") (.str z)) σ=.ok (.bool (decide (c=d))) σ:=by
 rw [yK (qB h) rfl,hz]
 show Rs.ok (V.bool ([c] == [d])) σ=_
 congr 2
 by_cases e:c=d
 ·subst e; simp
 ·rw [decide_eq_false e]
  simpa using e
theorem hZ {c d:Nat} {z:PySem.Str} {a r:S} (hz:z=⟨#[d]⟩) (h:σ.loc.lookup ("ch" : PySem.Str)=some (.str ⟨#[c]⟩)) (h1:c=d→Gd (ex a cx σ) (qAp r cx Q)) (h2:c≠d→Gd (ex r cx σ) Q) :
  Gd (ex (.seq (.ite (.cmp .Eq (.var "ch") (.str z)) a .nil) r) cx σ) Q :=
 qJ (qZk hz h) (fun q=>h1 (of_decide_eq_true q)) (fun q=>h2 (of_decide_eq_false q))
theorem qNb (B:Bx G cx) (h:B1 x k j H p m σ) (hz:m.gl.length≤2000) {r:S} (hk:∀ σ',B1 x k j H p { m with gl:=if m.level=0 then m.gl++[m.lno] else m.gl } σ'→σ'.loc=σ.loc→Gd (ex r cx σ') Q) :
  Gd (ex (.seq (.ite (.cmp .Eq (.var "level") (.int 0)) (.seq (.expr (.call (.var "push_good") (.cons (.var "lno") .nil))) .nil) .nil) r) cx σ) Q:=by
 refine qJ (jN (qB h.lev) rfl) (fun e=>?_) (fun e=>?_)
 ·have h0:m.level=0:=by simpa using e
  rw [if_pos h0] at hk
  refine zQ (σ₁:={ σ with toHp:=hput H j (.list (qI (m.gl++[m.lno]))) }) (v:=.none) ?_ (qG (hk _ h.setgl rfl))
  have ha:cx.app (.bnd j) [.int (m.lno:Nat)] σ.toHp=okH .none (hput H j (.list (qI (m.gl++[m.lno])))):=by
   rw [B.bd,h.hp]
   show (match (hput H j (.list (qI m.gl))).obj j with | some (.list xs)=>_ | _=>_)=_
   rw [vF]
   have hl:(qI m.gl).length+1≤sizeLine:=by
    unfold qI; rw [List.length_map]
    have:sizeLine=16777216:=by decide
    lia
   refine (if_pos hl).trans ?_
   show okH .none (hput (hput H j (.list (qI m.gl))) j (.list (qI m.gl++[.int (m.lno:Nat)])))=_
   rw [qHx]
   unfold qI; rw [List.map_append]; rfl
  exact zN (qB h.push) (qD (qB h.lno) rfl) ha
 ·have h0:¬ m.level=0:=by simpa using e
  rw [if_neg h0] at hk
  exact hk σ h rfl
theorem qMo {t:Nat} {a b:Int} (hp:p≤x.length) (ha:a=(p:Nat)) (hb:b=((p+t:Nat):Int)):yA H (.str x) (.int a) (.int b)=.ok (.str ⟨((x.cps.toList.drop p).take t).toArray⟩):=by
 subst ha hb; exact zHn hp
end
inductive Nxt (x:PySem.Str) (k j:Nat) (H:Hp) (R:Mk) (n:Nat) (σ:St):Prop where
 | mk (n' p:Nat) (m:Mk) (h1:n'≤n) (h2:p≤x.length) (h3:m.gl.length≤p+1) (h4:B1 x k j H p m σ) (h5:scan n' .out (x.cps.toList.drop p) m=some R)
inductive Inn (x:PySem.Str) (k j:Nat) (H:Hp) (R:Mk) (q w first:Nat) (n:Nat) (σ:St):Prop where
 | mk (n' p:Nat) (m:Mk) (h1:n'≤n) (h2:p≤x.length) (h3:m.gl.length≤p+1) (h4:B1 x k j H p m σ) (h5:Qs q w first σ.loc) (h6:scan n' (.txt q w first) (x.cps.toList.drop p) m=some R)
theorem qUj {n c:Nat} {l:List Nat} {m:Mk}:scan (n+1) .out (c::l) m=if c=120 then scan n .out l m
  else if c=10 then scan n .out l m.line
  else if c=40 then scan n .out l { m with level:=m.level+1 }
  else if c=41 then scan n .out l { m with level:=m.level - 1 }
  else if c=34∨c=39 then (if (c::l).take 3=[c,c,c] then scan n (.txt c 2 m.lno) (l.drop 2) m else scan n (.txt c 0 m.lno) l m)
  else if c=35 then (if 10∈l then scan n .out (l.dropWhile (·≠10)) m else none)
  else if c=92 then (match l with
   | []=>none
   | d::l=>scan n .out l (if d=10 then { m with lno:=m.lno+1,cont:=if l=[] then 1 else m.cont } else m))
  else none:=rfl
theorem qUi {n q w first c:Nat} {l:List Nat} {m:Mk}:scan (n+1) (.txt q w first) (c::l) m=if c=120 then scan n (.txt q w first) l m
  else if (c::l).take (w+1)=zU q w then scan n .out (l.drop w) m
  else if c=10 then (if w=0 then scan n .out l m.line else scan n (.txt q w first) l { m with lno:=m.lno+1 })
  else if c=92 then (match l with
   | []=>none
   | d::l=>scan n (.txt q w first) l (if d=10 then { m with lno:=m.lno+1 } else m))
  else scan n (.txt q w first) l m:=rfl
section
variable {cx:Sx} {G:Prg} {σ:St} {x:PySem.Str} {k j p n c q w first:Nat} {H:Hp} {m R:Mk} {l:List Nat}
theorem nlS:("\n" : PySem.Str)=⟨#[10]⟩:=by decide +kernel
theorem bsS:("\\" : PySem.Str)=⟨#[92]⟩:=by decide +kernel
theorem xS:("x" : PySem.Str)=⟨#[120]⟩:=by decide +kernel
theorem qDb {l:List Nat} {w q:Nat} (h:(c::l).take (w+1)=zU q w):w≤l.length:=by
 have:=congrArg List.length h
 unfold zU at this
 rw [List.length_take,List.length_replicate,List.length_cons] at this
 lia
theorem zLm {cx:Cx} {d:Nat} (hs:x.length≤1000) (h:B1 x k j H p m σ) (hd:x.cps.toList.drop p=d::l):ev cx (.cmp .Eq (.idx (.var "code") (.var "i")) (.str "\n")) σ=.ok (.bool (decide (d=10))) σ:=by
 rw [yK (xZ (qB h.code) (qB h.i) (qLa hs hd)) rfl,nlS]
 show Rs.ok (V.bool ([d] == [10])) σ=_
 congr 2
 by_cases e:d=10
 ·subst e; rfl
 ·rw [decide_eq_false e]; simpa using e
theorem qEl {cx:Cx} (h:B1 x k j H p m σ):ev cx (.cmp .Lt (.var "i") (.var "n")) σ=.ok (.bool (decide (p < x.length))) σ:=by
 rw [qGf (qB h.i) (qB h.n)]
 congr 2
 by_cases e:p < x.length
 ·rw [decide_eq_true e,decide_eq_true (by lia)]
 ·rw [decide_eq_false e,decide_eq_false (by lia)]
theorem zKg (B:Bx G cx) (hs:x.length≤1000) (h:B1 x k j H p m σ) (hq:Qs q w first σ.loc) (hz:m.gl.length≤p+1) (hd:x.cps.toList.drop p=c::l) (he:scan (n+1) (.txt q w first) (c::l) m=some R) :
  Gd (ex inB cx σ) fun f σ'=>match f with | .next=>Inn x k j H R q w first n σ' | .cont=>Inn x k j H R q w first n σ' | .brk=>Nxt x k j H R n σ' | .ret _=>False:=by
 have hp:=vG hd
 have hd1:=kF hd
 rw [qUi] at he
 unfold inB
 refine gd_sasg (xZ (qB h.code) (qB h.i) (qLa hs hd)) ?_
 have hch:=@qE σ "ch" (.str ⟨#[c]⟩)
 replace h:=h.oth (y:="ch") (v:=.str ⟨#[c]⟩) (by decide)
 replace hq:=hq.oth (y:="ch") (v:=.str ⟨#[c]⟩) (by decide)
 generalize σ.set "ch" (.str ⟨#[c]⟩)=σ at h hch hq ⊢
 refine gd_sasg (zG (qB h.i) rfl) ?_
 replace hch:=@qA σ "i" "ch" (.int ((p:Int)+1)) _ (by decide) hch
 replace h:=h.seti (i:=(p:Int)+1) (q:=p+1) rfl
 replace hq:=hq.oth (y:="i") (v:=.int ((p:Int)+1)) (by decide)
 generalize σ.set "i" (.int ((p:Int)+1))=σ at h hch hq ⊢
 refine hZ xS hch (fun e=>?_) fun e1=>?_
 ·rw [if_pos e] at he
  exact xA ⟨n,p+1,m,Nat.le_refl _,hp,by lia,h,hq,by rw [hd1]; exact he⟩
 rw [if_neg e1] at he
 refine qJ (yK (yJ (qB h.code) (jM (qB h.i) rfl) (zG (qB h.i) (qB hq.w)) (qMo (p:=p) (t:=w+1) (Nat.le_of_lt hp) (by lia) (by lia))) (qB hq.quote)) (fun e=>?_) fun e2=>?_
 ·have e':(c::l).take (w+1)=zU q w:=by rw [← hd]; exact eq_of_beq e
  rw [if_pos e'] at he
  have hw:=qDb e'
  have hL:=vZ (Nat.le_of_lt hp) hd
  rw [List.length_cons] at hL
  refine gd_sasg (zG (qB h.i) (qB hq.w)) (qF (gd_brk ?_))
  refine ⟨n,p+1+w,m,Nat.le_refl _,by lia,by lia,h.seti (by lia),?_⟩
  rw [← List.drop_drop,hd1]; exact he
 have e2':¬ (c::l).take (w+1)=zU q w:=by
  rw [← hd]; intro q'; rw [show (⟨(List.take (w+1) (List.drop p x.cps.toList)).toArray⟩:PySem.Str).cps.toList=List.take (w+1) (List.drop p x.cps.toList) from rfl,q',show (⟨(zU q w).toArray⟩:PySem.Str).cps.toList=zU q w from rfl] at e2
  simp at e2
 rw [if_neg e2'] at he
 refine hZ nlS hch (fun e=>?_) fun e3=>?_
 ·rw [if_pos e] at he
  refine gd_sasg (zG (qB h.lno) rfl) ?_
  replace h:=h.setlno (i:=(m.lno:Int)+1) (q:=m.lno+1) rfl
  replace hq:=hq.oth (y:="lno") (v:=.int ((m.lno:Int)+1)) (by decide)
  generalize σ.set "lno" (.int ((m.lno:Int)+1))=σ at h hq ⊢
  refine qJ (jN (qB hq.w) rfl) (fun e=>?_) fun e=>?_
  ·have h0:w=0:=by simpa using e
   rw [if_pos h0] at he
   refine qNb B h (by show m.gl.length≤2000; lia) fun σ' h' _=>qF (gd_brk ⟨n,p+1,_,Nat.le_refl _,hp,?_,h',by rw [hd1]; exact he⟩)
   show (if m.level=0 then m.gl++[m.lno+1] else m.gl).length≤_
   split
   ·rw [List.length_append,List.length_singleton]; lia
   ·lia
  ·have h0:¬ w=0:=by simpa using e
   rw [if_neg h0] at he
   exact xA ⟨n,p+1,_,Nat.le_refl _,hp,by show m.gl.length≤_; lia,h,hq,by rw [hd1]; exact he⟩
 rw [if_neg e3] at he
 refine hZ bsS hch (fun e=>?_) fun e4=>?_
 ·rw [if_pos e] at he
  cases hl:l with
  | nil=>rw [hl] at he; cases he
  | cons d l' =>
   rw [hl] at he hd1
   have hp2:=vG hd1
   have hd2:=kF hd1
   refine qW (by rw [qEl h,decide_eq_true hp2]) ?_
   refine qJ (zLm hs h hd1) (fun e=>?_) fun e=>?_
   ·dsimp only at he
    rw [if_pos (of_decide_eq_true e)] at he
    refine gd_sasg (zG (qB h.lno) rfl) (qG ?_)
    replace h:=h.setlno (i:=(m.lno:Int)+1) (q:=m.lno+1) rfl
    replace hq:=hq.oth (y:="lno") (v:=.int ((m.lno:Int)+1)) (by decide)
    generalize σ.set "lno" (.int ((m.lno:Int)+1))=σ at h hq ⊢
    refine gd_sasg (zG (qB h.i) rfl) (xA ?_)
    exact ⟨n,p+1+1,_,Nat.le_refl _,hp2,by show m.gl.length≤_; lia,h.seti rfl,hq.oth (by decide),by rw [hd2]; exact he⟩
   ·dsimp only at he
    rw [if_neg (of_decide_eq_false e)] at he
    refine gd_sasg (zG (qB h.i) rfl) (xA ?_)
    exact ⟨n,p+1+1,m,Nat.le_refl _,hp2,by lia,h.seti rfl,hq.oth (by decide),by rw [hd2]; exact he⟩
 rw [if_neg e4] at he
 exact qG ⟨n,p+1,m,Nat.le_refl _,hp,by lia,h,hq,by rw [hd1]; exact he⟩
end
end Mine.Lake.L09
end
noncomputable section
namespace Mine.Lake.L09
open PySem PySem.W PyProof.Rows Mine.Lake Mine.Lake.Rp MineTop
section
variable {cx:Sx} {G:Prg} {σ:St} {x:PySem.Str} {k j p n c q w first:Nat} {H:Hp} {m R:Mk} {l:List Nat} {pp:Params}
theorem zMg (B:Bx (G09 pp) cx):cx.gl "C_BACKSLASH" = some (.int 1):=by rw [B.gl]; rfl
theorem zMf (B:Bx (G09 pp) cx):cx.gl "C_STRING_FIRST_LINE" = some (.int 2):=by rw [B.gl]; rfl
theorem zKi (B:Bx (G09 pp) cx):cx.gl "C_STRING_NEXT_LINES" = some (.int 3):=by rw [B.gl]; rfl
theorem zMe (B:Bx (G09 pp) cx):cx.gl "C_BRACKET" = some (.int 4):=by rw [B.gl]; rfl
theorem zKj (B:Bx (G09 pp) cx):cx.gl "C_NONE" = some (.int 0):=by rw [B.gl]; rfl
theorem qFk (B:Bx (G09 pp) cx):cx.gl "len" = some (.top (.builtin "len")):=by rw [B.gl]; rfl
theorem Inn.mono {n':Nat} (h:Inn x k j H R q w first n σ) (hn:n≤n'):Inn x k j H R q w first n' σ:=by
 obtain ⟨a,b,c,h1,h2,h3,h4,h5,h6⟩:=h; exact ⟨a,b,c,Nat.le_trans h1 hn,h2,h3,h4,h5,h6⟩
theorem Nxt.mono {n':Nat} (h:Nxt x k j H R n σ) (hn:n≤n'):Nxt x k j H R n' σ:=by
 obtain ⟨a,b,c,h1,h2,h3,h4,h5⟩:=h; exact ⟨a,b,c,Nat.le_trans h1 hn,h2,h3,h4,h5⟩
theorem zEo (B:Bx (G09 pp) cx) (h:B1 x k j H p m σ) (hq:Qs q w first σ.loc):Gd (ex inE cx σ) fun f σ'=>f=.next∧B1 x k j H p { m with cont:=if m.lno=first+1 then 2 else 3 } σ':=by
 unfold inE
 refine qNm (jN (jM (qB h.lno) rfl) (qB hq.first)) (fun e=>?_) (fun e=>?_)
 ·have h0:m.lno=first+1:=by have:=eq_of_beq e; lia
  rw [if_pos h0]
  exact gd_sasg (qP (zMf B)) (qG (qG ⟨rfl,h.setcont rfl⟩))
 ·have h0:¬ m.lno=first+1:=by
   intro q'; rw [q'] at e
   have:((first+1:Nat):Int) - 1=first:=by lia
   rw [this] at e; simp at e
  rw [if_neg h0]
  exact gd_sasg (qP (zKi B)) (qG (qG ⟨rfl,h.setcont rfl⟩))
theorem zEn (B:Bx (G09 pp) cx) (hs:x.length≤1000) (hn:n≤1000) (h:Inn x k j H R q w first n σ):Gd (ex inL cx σ) fun f σ'=>f=.next∧Nxt x k j H R n σ':=by
 refine wR (fun fuel σ=>Inn x k j H R q w first (min fuel n) σ) (by rw [Nat.min_eq_right hn]; exact h) ?_
 rintro fuel σ ⟨n',p,m,hn',hp,hz,h,hq,he⟩
 cases n' with
 | zero=>cases he
 | succ n' =>
 have hf:n'+1≤fuel:=Nat.le_trans hn' (Nat.min_le_left ..)
 have hn2:n'+1≤n:=Nat.le_trans hn' (Nat.min_le_right ..)
 refine ⟨fuel - 1,by lia,_,σ,_,qEl h,rfl,fun e=>?_,fun e=>?_⟩
 ·cases hd:x.cps.toList.drop p with
  | nil =>
   have:=qIj hp hd
   have:=of_decide_eq_true e
   lia
  | cons c l =>
   rw [hd] at he
   refine (zKg B hs h hq hz hd he).mono fun f σ' r=>?_
   have hm:n'≤min (fuel - 1) n:=Nat.le_min.mpr ⟨by lia,by lia⟩
   cases f with
   | next=>exact Inn.mono r hm
   | cont=>exact Inn.mono r hm
   | brk=>exact ⟨rfl,Nxt.mono r (by lia)⟩
   | ret v=>exact r.elim
 ·have hpe:p=x.length:=by have:=of_decide_eq_false e; lia
  have hd:x.cps.toList.drop p=[]:=List.drop_eq_nil_of_le (by rw [Array.length_toList,hpe]; exact Nat.le_refl _)
  rw [hd] at he
  refine (zEo B h hq).mono ?_
  rintro f σ' ⟨rfl,h'⟩
  exact ⟨rfl,n',p,{ m with cont:=if m.lno=first+1 then 2 else 3 },by lia,hp,hz,h',by rw [hd]; exact he⟩
theorem zLw {c:Nat} {H:Hp}:qSd H .Mult (.str ⟨#[c]⟩) (.int 3)=.ok (.str ⟨([c,c,c]:List Nat).toArray⟩):=by
 show (if (3:Int)=3∧(⟨#[c]⟩:PySem.Str).length=1 then Ov.ok (V.str (⟨#[c]⟩++⟨#[c]⟩++⟨#[c]⟩)) else .bad)=_
 rw [if_pos ⟨rfl,rfl⟩]
 rfl
theorem uF {y:PySem.Str} (B:Bx (G09 pp) cx) {z:PySem.Str} (h:σ.loc.lookup z=some (.str y)):ev cx.toCx (.call (.glob "len") (.cons (.var z) .nil)) σ=.ok (.int (y.length:Nat)) σ :=
 zN (σ':=⟨σ.toHp,[],[],none⟩) (qP (qFk B)) (qD (qB h) rfl) (by rw [B.bl,uE]; rfl)
noncomputable def zIe:S:=(.seq (.asg "firstlno" (.var "lno")) (.seq (.asg "w" (.bin .Sub (.call (.glob "len") (.cons (.var "quote") .nil)) (.int 1))) (.seq (.asg "i" (.bin .Add (.var "i") (.var "w"))) (.seq inL (.seq .cont .nil)))))
theorem qHg (B:Bx (G09 pp) cx) (hs:x.length≤1000) (hn:n≤1000) (h:B1 x k j H p m σ) (hp:p+w≤x.length) (hz:m.gl.length≤p+1) (hq:σ.loc.lookup ("quote" : PySem.Str)=some (.str ⟨(zU q w).toArray⟩)) (he:scan n (.txt q w m.lno) (x.cps.toList.drop (p+w)) m=some R) :
  Gd (ex zIe cx σ) fun f σ'=>f=.cont∧Nxt x k j H R n σ':=by
 unfold zIe
 refine gd_sasg (qB h.lno) ?_
 have f1:=@qE σ "firstlno" (.int (m.lno:Nat))
 replace hq:=@qA σ "firstlno" "quote" (.int (m.lno:Nat)) _ (by decide) hq
 replace h:=h.oth (y:="firstlno") (v:=.int (m.lno:Nat)) (by decide)
 generalize σ.set "firstlno" (.int (m.lno:Nat))=σ at h f1 hq ⊢
 have hw:((⟨(zU q w).toArray⟩:PySem.Str).length:Int) - 1=(w:Nat):=by
  have:(⟨(zU q w).toArray⟩:PySem.Str).length=w+1:=by
   show (zU q w).toArray.size=_
   rw [List.size_toArray]; unfold zU; rw [List.length_replicate]
  lia
 refine gd_sasg (jM (uF B hq) rfl) ?_
 rw [hw]
 have f2:=@qE σ "w" (.int (w:Nat))
 replace f1:=@qA σ "w" "firstlno" (.int (w:Nat)) _ (by decide) f1
 replace hq:=@qA σ "w" "quote" (.int (w:Nat)) _ (by decide) hq
 replace h:=h.oth (y:="w") (v:=.int (w:Nat)) (by decide)
 generalize σ.set "w" (.int (w:Nat))=σ at h f1 f2 hq ⊢
 have hQ:Qs q w m.lno σ.loc:=⟨hq,f2,f1⟩
 refine gd_sasg (zG (qB h.i) (qB f2)) ?_
 refine zX ((zEn B hs hn ⟨n,p+w,m,Nat.le_refl _,hp,by lia,h.seti rfl,hQ.oth (by decide),he⟩).mono ?_)
 rintro f σ' ⟨rfl,h'⟩
 exact xA ⟨rfl,h'⟩
theorem zBg (B:Bx (G09 pp) cx) (hs:x.length≤1000) (hn:n≤1000) (h:B1 x k j H (p+1) m σ) (hz:m.gl.length≤p+1) (hch:σ.loc.lookup ("ch" : PySem.Str)=some (.str ⟨#[c]⟩)) (hd:x.cps.toList.drop p=c::l)
  (he:(if (c::l).take 3=[c,c,c] then scan n (.txt c 2 m.lno) (l.drop 2) m else scan n (.txt c 0 m.lno) l m)=some R) :
  Gd (ex zLs cx σ) fun f σ'=>f=.cont∧Nxt x k j H R n σ':=by
 have hp:=vG hd
 have hd1:=kF hd
 have hL:=vZ (Nat.le_of_lt hp) hd
 rw [List.length_cons] at hL
 show Gd (ex (.seq (.asg "quote" (.var "ch")) (.seq (.ite (.cmp .Eq (.slc (.var "code") (.bin .Sub (.var "i") (.int 1)) (.bin .Add (.var "i") (.int 2))) (.bin .Mult (.var "quote") (.int 3))) (.seq (.asg "quote" (.bin .Mult (.var "quote") (.int 3))) .nil) .nil) zIe)) cx σ) _
 refine gd_sasg (qB hch) ?_
 have hq:=@qE σ "quote" (.str ⟨#[c]⟩)
 replace h:=h.oth (y:="quote") (v:=.str ⟨#[c]⟩) (by decide)
 generalize σ.set "quote" (.str ⟨#[c]⟩)=σ at h hq ⊢
 refine qJ (yK (yJ (qB h.code) (jM (qB h.i) rfl) (zG (qB h.i) rfl) (qMo (p:=p) (t:=3) (Nat.le_of_lt hp) (by lia) (by lia))) (yM (qB hq) rfl zLw)) (fun e=>?_) fun e=>?_
 ·have e':(c::l).take 3=[c,c,c]:=by rw [← hd]; exact eq_of_beq e
  rw [if_pos e'] at he
  have h3:=congrArg List.length e'
  rw [List.length_take,List.length_cons] at h3
  have h3':min 3 (l.length+1)=3:=h3
  refine gd_sasg (yM (qB hq) rfl zLw) (qG ?_)
  refine (qHg (q:=c) (w:=2) B hs hn (h.oth (by decide)) (by lia) (by lia) qE ?_)
  rw [← List.drop_drop,hd1]; exact he
 ·have e':¬ (c::l).take 3=[c,c,c]:=by
   rw [← hd]; intro q'
   have e2:((List.drop p x.cps.toList).take 3 == [c,c,c])=false:=e
   rw [q'] at e2; simp at e2
  rw [if_neg e'] at he
  exact qHg (q:=c) (w:=0) B hs hn h (by lia) (by lia) hq (by rw [Nat.add_zero,hd1]; exact he)
end
section
variable {cx:Sx} {G:Prg} {σ:St} {x:PySem.Str} {k j p n c q w first:Nat} {H:Hp} {m R:Mk} {l:List Nat} {pp:Params}
theorem lpS:("(" : PySem.Str)=⟨#[40]⟩:=by decide +kernel
theorem rpS:(")" : PySem.Str)=⟨#[41]⟩:=by decide +kernel
theorem dqS:("\"" : PySem.Str)=⟨#[34]⟩:=by decide +kernel
theorem sqS:("'" : PySem.Str)=⟨#[39]⟩:=by decide +kernel
theorem haS:("#" : PySem.Str)=⟨#[35]⟩:=by decide +kernel
noncomputable def Out (x:PySem.Str) (k j:Nat) (H:Hp) (R:Mk) (n:Nat) (f:Fl) (σ:St):Prop:=(f=.next∨f=.cont)∧Nxt x k j H R n σ
theorem qWt {o:PySem.Str} (B:Bx (G09 pp) cx) {H:Hp}:cx.get (.str o) "find" H=some (.top (.builtin "str.find"),[.str o]):=by
 rw [B.get]
 have e:qHy (G09 pp) (.str o) "find" H=(zI "find").map fun i=>(V.top (.builtin i),[V.str o]):=rfl
 rw [e]
 have:zI "find" = some "str.find" := by
  unfold zI
  rw [if_pos rfl]
 rw [this]; rfl
theorem qUt (B:Bx (G09 pp) cx) (hs:x.length≤1000) (h:B1 x k j H (p+1) m σ) (hz:m.gl.length≤p+1) (hch:σ.loc.lookup ("ch" : PySem.Str)=some (.str ⟨#[c]⟩))
  (he:(if c=35 then (if 10∈l then scan n .out (l.dropWhile (·≠10)) m else none)
  else if c=92 then (match l with
   | []=>none
   | d::l=>scan n .out l (if d=10 then { m with lno:=m.lno+1,cont:=if l=[] then 1 else m.cont } else m))
  else none)=some R) (hd:x.cps.toList.drop p=c::l) :
  Gd (ex zIf cx σ) (Out x k j H R n):=by
 have hp:=vG hd
 have hd1:=kF hd
 unfold zIf
 refine hZ haS hch (fun e=>?_) fun e1=>?_
 ·rw [if_pos e] at he
  by_cases hm:10∈l
  ·rw [if_pos hm] at he
   obtain ⟨r,e1,e2,e3⟩:=zFb hp hd1 hm
   have hr:p+1≤r:=by
    rcases Nat.lt_or_ge r (p+1) with c' | c'
    ·exfalso
     have h1:=vZ (Nat.le_of_lt e2) e3
     have h2:=vZ hp hd1
     have h3:(l.dropWhile (·≠10)).length≤l.length:=(List.dropWhile_suffix _).length_le
     lia
    ·exact c'
   refine gd_sasg (zD (σ':=⟨σ.toHp,[],[],none⟩) (xs:=[.str "\n", .int ((p+1:Nat):Int)]) (v:=.int (r:Nat)) (qB h.code) (qWt B) (qD rfl (qD (qB h.i) rfl)) ?_) ?_
   ·rw [B.bl]
    show bapp _ "str.find" [.str x,.str "\n", .int ((p+1:Nat):Int)] _=_
    rw [qSh,nlS]
    show okH (.int (Txt.find3 x ⟨#[10]⟩ ((p+1:Nat):Int))) σ.toHp=_
    rw [e1]; rfl
   have h':B1 x k j H r m (σ.set "i" (.int (r:Nat))):=h.seti rfl
   refine qW (by rw [jQ (qB h'.i) rfl,decide_eq_true (by lia)]) (xA ?_)
   exact ⟨.inr rfl,n,r,m,Nat.le_refl _,Nat.le_of_lt e2,by lia,h',by rw [e3]; exact he⟩
  ·rw [if_neg hm] at he; cases he
 rw [if_neg e1] at he
 by_cases e2:c=92
 ·rw [if_pos e2] at he
  cases hl:l with
  | nil=>rw [hl] at he; cases he
  | cons d l' =>
   rw [hl] at he hd1
   dsimp only at he
   have hp2:=vG hd1
   have hd2:=kF hd1
   refine qW (by rw [qZk bsS hch,decide_eq_true e2]) (qW (by rw [qEl h,decide_eq_true hp2]) ?_)
   refine qJ (zLm hs h hd1) (fun e=>?_) fun e=>?_
   ·rw [if_pos (of_decide_eq_true e)] at he
    refine gd_sasg (zG (qB h.lno) rfl) ?_
    replace h:=h.setlno (i:=(m.lno:Int)+1) (q:=m.lno+1) rfl
    generalize σ.set "lno" (.int ((m.lno:Int)+1))=σ at h ⊢
    have hlast:l'=[] ↔ p+1+1=x.length:=by
     have:=vZ hp2 hd2
     constructor
     ·rintro rfl; rw [List.length_nil] at this; lia
     ·intro q'; exact List.eq_nil_of_length_eq_zero (by lia)
    refine qJ (jN (zG (qB h.i) rfl) (qB h.n)) (fun e=>?_) fun e=>?_
    ·have h0:l'=[]:=hlast.mpr (by have:=eq_of_beq e; lia)
     rw [if_pos h0] at he
     refine gd_sasg (qP (zMg B)) (qG (qG ?_))
     replace h:=h.setcont (i:=1) (q:=1) rfl
     generalize σ.set "continuation" (.int 1)=σ at h ⊢
     refine gd_sasg (zG (qB h.i) rfl) (qG ?_)
     exact ⟨.inl rfl,n,p+1+1,_,Nat.le_refl _,hp2,by show m.gl.length≤_; lia,h.seti rfl,by rw [hd2]; exact he⟩
    ·have h0:¬ l'=[]:=fun q'=>by
      have:=hlast.mp q'
      rw [show ((p+1:Nat):Int)+1=(x.length:Nat) by lia] at e
      simp at e
     rw [if_neg h0] at he
     refine qG ?_
     refine gd_sasg (zG (qB h.i) rfl) (qG ?_)
     exact ⟨.inl rfl,n,p+1+1,_,Nat.le_refl _,hp2,by show m.gl.length≤_; lia,h.seti rfl,by rw [hd2]; exact he⟩
   ·rw [if_neg (of_decide_eq_false e)] at he
    refine gd_sasg (zG (qB h.i) rfl) (qG ?_)
    exact ⟨.inl rfl,n,p+1+1,m,Nat.le_refl _,hp2,by lia,h.seti rfl,by rw [hd2]; exact he⟩
 ·rw [if_neg e2] at he; cases he
theorem zBj (B:Bx (G09 pp) cx) (hs:x.length≤1000) (hn:n≤1000) (h:B1 x k j H p m σ) (hz:m.gl.length≤p+1) (hd:x.cps.toList.drop p=c::l) (he:scan (n+1) .out (c::l) m=some R) :
  Gd (ex zIi cx σ) (Out x k j H R n):=by
 have hp:=vG hd
 have hd1:=kF hd
 rw [qUj] at he
 unfold zIi
 refine gd_sasg (xZ (qB h.code) (qB h.i) (qLa hs hd)) ?_
 have hch:=@qE σ "ch" (.str ⟨#[c]⟩)
 replace h:=h.oth (y:="ch") (v:=.str ⟨#[c]⟩) (by decide)
 generalize σ.set "ch" (.str ⟨#[c]⟩)=σ at h hch ⊢
 refine gd_sasg (zG (qB h.i) rfl) ?_
 replace hch:=@qA σ "i" "ch" (.int ((p:Int)+1)) _ (by decide) hch
 replace h:=h.seti (i:=(p:Int)+1) (q:=p+1) rfl
 generalize σ.set "i" (.int ((p:Int)+1))=σ at h hch ⊢
 refine hZ xS hch (fun e=>?_) fun e1=>?_
 ·rw [if_pos e] at he
  exact xA ⟨.inr rfl,n,p+1,m,Nat.le_refl _,hp,by lia,h,by rw [hd1]; exact he⟩
 rw [if_neg e1] at he
 refine hZ nlS hch (fun e=>?_) fun e2=>?_
 ·rw [if_pos e] at he
  refine gd_sasg (zG (qB h.lno) rfl) ?_
  replace h:=h.setlno (i:=(m.lno:Int)+1) (q:=m.lno+1) rfl
  refine qNb B h (by show m.gl.length≤2000; lia) fun σ' h' _=>xA ⟨.inr rfl,n,p+1,_,Nat.le_refl _,hp,?_,h',by rw [hd1]; exact he⟩
  show (if m.level=0 then m.gl++[m.lno+1] else m.gl).length≤_
  split
  ·rw [List.length_append,List.length_singleton]; lia
  ·lia
 rw [if_neg e2] at he
 refine hZ lpS hch (fun e=>?_) fun e3=>?_
 ·rw [if_pos e] at he
  exact gd_sasg (zG (qB h.lev) rfl) (xA ⟨.inr rfl,n,p+1,_,Nat.le_refl _,hp,by show m.gl.length≤_; lia,h.setlev (q:=m.level+1) rfl,by rw [hd1]; exact he⟩)
 rw [if_neg e3] at he
 refine hZ rpS hch (fun e=>?_) fun e4=>?_
 ·rw [if_pos e] at he
  refine zX (vP (qB h.lev) (t:=decide (m.level≠0)) ?_ (fun e=>?_) fun e=>?_)
  ·show some (((m.level:Nat):Int) != 0)=_
   congr 1
   by_cases e0:m.level=0
   ·rw [e0]; rfl
   ·rw [decide_eq_true e0]; simpa using e0
  ·have e0:m.level≠0:=of_decide_eq_true e
   refine gd_sasg (jM (qB h.lev) rfl) (qG ?_)
   exact xA ⟨.inr rfl,n,p+1,_,Nat.le_refl _,hp,by show m.gl.length≤_; lia,h.setlev (q:=m.level - 1) (by lia),by rw [hd1]; exact he⟩
  ·have e0:m.level=0:=by simpa using of_decide_eq_false e
   have em:({ m with level:=m.level - 1 }:Mk)=m:=by cases m; simp only at e0; subst e0; rfl
   rw [em] at he
   exact qG (xA ⟨.inr rfl,n,p+1,m,Nat.le_refl _,hp,by lia,h,by rw [hd1]; exact he⟩)
 rw [if_neg e4] at he
 refine qJ (qJa (qZk dqS hch) (fun _=>qZk sqS hch)) (fun e=>?_) fun e=>?_
 ·have e0:c=34∨c=39:=by simpa using e
  rw [if_pos e0] at he
  refine (zBg B hs hn h hz hch hd he).mono ?_
  rintro f σ' ⟨rfl,h'⟩
  exact ⟨.inr rfl,h'⟩
 ·have e0:¬ (c=34∨c=39):=by simpa using e
  rw [if_neg e0] at he
  exact qUt B hs h hz hch he hd
theorem qUx (B:Bx (G09 pp) cx) (hs:x.length≤1000) (hn:n≤1000) (h:Nxt x k j H R n σ):Gd (ex zLv cx σ) fun f σ'=>f=.next∧∃ p,B1 x k j H p R σ'∧R.gl.length≤1001:=by
 refine wR (fun fuel σ=>Nxt x k j H R (min fuel n) σ) (by rw [Nat.min_eq_right hn]; exact h) ?_
 rintro fuel σ ⟨n',p,m,hn',hp,hz,h,he⟩
 cases n' with
 | zero=>cases he
 | succ n' =>
 have hf:n'+1≤fuel:=Nat.le_trans hn' (Nat.min_le_left ..)
 have hn2:n'+1≤n:=Nat.le_trans hn' (Nat.min_le_right ..)
 refine ⟨fuel - 1,by lia,_,σ,_,qEl h,rfl,fun e=>?_,fun e=>?_⟩
 ·cases hd:x.cps.toList.drop p with
  | nil =>
   have:=qIj hp hd
   have:=of_decide_eq_true e
   lia
  | cons c l =>
   rw [hd] at he
   refine (zBj B hs (by lia) h hz hd he).mono fun f σ' r=>?_
   have hm:n'≤min (fuel - 1) n:=Nat.le_min.mpr ⟨by lia,by lia⟩
   obtain ⟨rfl | rfl,r⟩:=r
   ·exact Nxt.mono r hm
   ·exact Nxt.mono r hm
 ·have hpe:p=x.length:=by have:=of_decide_eq_false e; lia
  have hd:x.cps.toList.drop p=[]:=List.drop_eq_nil_of_le (by rw [Array.length_toList,hpe]; exact Nat.le_refl _)
  rw [hd] at he
  cases he
  exact qG ⟨rfl,p,h,by lia⟩
end
noncomputable abbrev qX:=List (PySem.Str×V)
structure PO (H:Hp) (k d:Nat) (fs:qX):Prop where
 inst:H.obj k=some (.inst 249 d)
 dict:H.obj d=some (.dict fs)
 ne:k≠d
theorem PO.put {H:Hp} {k d:Nat} {fs fs':qX} (h:PO H k d fs):PO (hput H d (.dict fs')) k d fs':=⟨(zK h.ne).trans h.inst,vF,h.ne⟩
theorem PO.oth {H:Hp} {k d j:Nat} {fs:qX} (h:PO H k d fs) (h1:k≠j) (h2:d≠j) {o:O}:PO (hput H j o) k d fs:=⟨(zK h1).trans h.inst,(zK h2).trans h.dict,h.ne⟩
section
variable {cx:Sx} {pp:Params} {H:Hp} {k d j:Nat} {fs:qX}
theorem PO.at (h:PO H k d fs):jJ (G09 pp) (.ref k) H=some (k,d,fs):=by
 unfold jJ
 dsimp only
 rw [h.inst]
 dsimp only
 rw [h.dict]
 rfl
theorem qDx {xs:List V} (h:H.obj j=some (.list xs)):jJ (G09 pp) (.ref j) H=none:=by
 unfold jJ
 dsimp only
 rw [h]
theorem PO.fld (B:Bx (G09 pp) cx) (h:PO H k d fs) {f:PySem.Str} {v:V} (hf:flds09.contains f=true) (hv:fs.lookup f=some v) (hh:qFi v=true):cx.fld (.ref k) f H=.ok v:=by
 rw [B.fld]
 unfold qLf
 rw [h.at]
 dsimp only
 rw [if_pos (show (G09 pp).flds.contains f=true from hf),hv]
 dsimp only
 rw [if_pos hh]
theorem PO.setA (B:Bx (G09 pp) cx) (h:PO H k d fs) {f:PySem.Str} {v:V} (hf:flds09.contains f=true) (hl:fs.length≤100):cx.setA (.ref k) f v H=some (hput H d (.dict (setF f v fs))):=by
 rw [B.setA]
 unfold qUh
 rw [h.at]
 dsimp only
 rw [if_pos ⟨show (G09 pp).flds.contains f=true from hf,hl⟩]
 rfl
theorem qCd (B:Bx (G09 pp) cx) {xs:List V} (h:H.obj j=some (.list xs)):cx.fld (.ref j) "append" H=.ok (.bnd j):=by
 rw [B.fld]
 unfold qLf
 rw [qDx h]
 dsimp only
 rw [if_pos rfl]
 rw [h]
end
noncomputable def canon:List PySem.Str:=["indentwidth", "tabwidth", "code", "study_level", "goodlines", "continuation", "stmt_start", "stmt_end", "lastch", "lastopenbracketpos", "stmt_bracketing"]
theorem qEg:∀ n,n≤11→∀ i,i < 11→(canon.getD i "" ∈ canon.take n ↔ i < n):=by decide +kernel
theorem qLm:∀ n,n < 11→canon.take n++[canon.getD n ""]=canon.take (n+1):=by decide +kernel
noncomputable def Kx (fs:qX) (m:Nat):Prop:=∃ n,m≤n∧n≤11∧fs.map (·.1)=canon.take n
theorem qDt {f:PySem.Str} {v:V}:∀ {fs:qX},(setF f v fs).map (·.1)=if f∈fs.map (·.1) then fs.map (·.1) else fs.map (·.1)++[f]
 | []=>rfl
 | (y,u)::r=>by
  unfold setF
  by_cases h:(f == y)=true
  ·have e:f=y:=eq_of_beq h
   rw [if_pos h,if_pos (by rw [e]; exact .head _)]; rfl
  ·have hne:f≠y:=fun q=>h (by rw [q]; simp)
   rw [if_neg h]
   show y::(setF f v r).map (·.1)=_
   rw [qDt]
   by_cases hm:f∈r.map (·.1)
   ·rw [if_pos hm,if_pos (.tail _ hm)]; rfl
   ·rw [if_neg hm,if_neg (fun q=>by
     rcases List.mem_cons.mp q with q | q
     ·exact hne q
     ·exact hm q)]; rfl
theorem Kx.set {fs:qX} {m i:Nat} (h:Kx fs m) (hi:i < 11) (him:i≤m) {f:PySem.Str} (hf:canon.getD i "" = f) {v:V}:Kx (setF f v fs) (max m (i+1)):=by
 subst hf
 obtain ⟨n,h1,h2,h3⟩:=h
 unfold Kx
 rw [qDt,h3]
 by_cases q:i < n
 ·rw [if_pos ((qEg n h2 i hi).mpr q)]
  exact ⟨n,Nat.max_le.mpr ⟨h1,q⟩,h2,rfl⟩
 ·have e:i=n:=Nat.le_antisymm (Nat.le_trans him h1) (Nat.not_lt.mp q)
  rw [if_neg (fun w=>q ((qEg n h2 i hi).mp w))]
  subst e
  exact ⟨i+1,Nat.max_le.mpr ⟨Nat.le_succ_of_le h1,Nat.le_refl _⟩,hi,qLm i hi⟩
theorem Kx.less {fs:qX} {m m':Nat} (h:Kx fs m) (hm:m'≤m):Kx fs m':=let ⟨n,h1,h2⟩:=h; ⟨n,Nat.le_trans hm h1,h2⟩
theorem Kx.len {fs:qX} {m:Nat} (h:Kx fs m):fs.length≤100:=by
 obtain ⟨n,h1,h2,h3⟩:=h
 have:=congrArg List.length h3
 rw [List.length_map,List.length_take] at this
 rw [this]
 exact Nat.le_trans (Nat.min_le_left _ _) (Nat.le_trans h2 (by decide))
theorem hJ {y:PySem.Str}:∀ {fs:qX},y ∉ fs.map (·.1)→fs.lookup y=none
 | [],_=>rfl
 | (z,u)::r,h=>by
  have h1:(y == z)=false:=beq_eq_false_iff_ne.mpr fun q=>h (q ▸ .head _)
  rw [List.lookup,h1]
  exact hJ fun q=>h (.tail _ q)
theorem Kx.meth {fs:qX} {m:Nat} (h:Kx fs m) {y:PySem.Str} (hy:y ∉ canon):fs.lookup y=none:=by
 obtain ⟨n,_,_,h3⟩:=h
 refine hJ fun q=>hy ?_
 rw [h3] at q
 exact List.mem_of_mem_take q
theorem zB {y:PySem.Str} {v:V}:∀ {fs:qX},(setF y v fs).lookup y=some v
 | []=>by simp [setF]
 | (z,u)::r=>by
  unfold setF
  by_cases h:(y == z)=true
  ·rw [if_pos h,List.lookup,h]
  ·rw [if_neg h,List.lookup]
   have h':(y == z)=false:=by simpa using h
   rw [h']
   exact zB
theorem qC {x y:PySem.Str} {v:V} (hne:(x == y)=false):∀ {fs:qX},(setF y v fs).lookup x=fs.lookup x
 | []=>by
  show (List.lookup x [(y,v)])=none
  rw [List.lookup,hne]; rfl
 | (z,u)::r=>by
  unfold setF
  by_cases h:(y == z)=true
  ·have e:y=z:=eq_of_beq h
   subst e
   rw [if_pos h,List.lookup,hne,List.lookup,hne]
  ·rw [if_neg h,List.lookup,List.lookup,qC hne]
structure FsP (fs:qX) (iw tw:Int) (x:PySem.Str) (l:Int):Prop where
 kx:Kx fs 4
 iw:fs.lookup ("indentwidth" : PySem.Str)=some (.int iw)
 tw:fs.lookup ("tabwidth" : PySem.Str)=some (.int tw)
 code:fs.lookup ("code" : PySem.Str)=some (.str x)
 lev:fs.lookup ("study_level" : PySem.Str)=some (.int l)
theorem FsP.setLev {fs:qX} {iw tw:Int} {x:PySem.Str} {l l':Int} (h:FsP fs iw tw x l):FsP (setF "study_level" (.int l') fs) iw tw x l' :=
 ⟨(h.kx.set (i:=3) (by decide) (by decide) (by decide +kernel)).less (by decide),(qC (by decide)).trans h.iw,(qC (by decide)).trans h.tw,(qC (by decide)).trans h.code,zB⟩
noncomputable def grown (H:Hp) (d:Nat) (D L:O):Hp:={ obj:=fun i=>if i=H.nxt then some L else if i=d then some D else H.obj i,nxt:=H.nxt+1 }
noncomputable def base (H:Hp) (d:Nat) (D:O):Hp:={ obj:=fun i=>if i=d then some D else H.obj i,nxt:=H.nxt+1 }
theorem qBz {H:Hp} {d:Nat} {D L:O}:hput (base H d D) H.nxt L=grown H d D L:=rfl
theorem qRb {H:Hp} {d:Nat} {D D' L:O} (h:d≠H.nxt):hput (grown H d D L) d D'=grown H d D' L:=by
 unfold hput grown
 refine congrArg (fun o=>Hp.mk o (H.nxt+1)) (funext fun j=>?_)
 show (if j=d then some D' else if j=H.nxt then some L else if j=d then some D else H.obj j)=if j=H.nxt then some L else if j=d then some D' else H.obj j
 by_cases h1:j=d
 ·subst h1; rw [if_pos rfl,if_neg h,if_pos rfl]
 ·rw [if_neg h1,if_neg h1,if_neg h1]
theorem zGg {H:Hp} {d:Nat} {D D' L:O} (h:d≠H.nxt):hput (Hp.add (hput H d D) L) d D'=grown H d D' L:=by
 show hput { obj:=fun i=>if i=H.nxt then some L else (hput H d D).obj i,nxt:=H.nxt+1 } d D'=_
 unfold hput grown
 refine congrArg (fun o=>Hp.mk o (H.nxt+1)) (funext fun j=>?_)
 show (if j=d then some D' else if j=H.nxt then some L else if j=d then some D else H.obj j)=if j=H.nxt then some L else if j=d then some D' else H.obj j
 by_cases h1:j=d
 ·subst h1; rw [if_pos rfl,if_neg h,if_pos rfl]
 ·rw [if_neg h1,if_neg h1,if_neg h1]
section
variable {cx:Sx} {pp:Params} {σ:St} {x:PySem.Str} {k d j p:Nat} {H:Hp} {m R:Mk} {fs:qX}
theorem qVl {gl:List Nat} {a:Nat} (h:gl.getLast? = some a) (hl:gl.length≤2000) {σ:St} {j:Nat} {H:Hp} (hp:σ.toHp=hput H j (.list (qI gl))):jK σ.toHp (.ref j) (.int (-1))=.ok (.int (a:Nat)):=by
 have hne:gl.length≠0:=by rintro q; rw [List.eq_nil_of_length_eq_zero q] at h; cases h
 have hs:seqIndex? (-1) gl.length=some (gl.length - 1):=by
  have e:(if (-1:Int) < 0 then (-1:Int)+gl.length else -1)=((gl.length - 1:Nat):Int):=by rw [if_pos (by decide)]; lia
  unfold seqIndex?
  rw [e]
  exact (if_pos (by rw [Bool.and_eq_true]; exact ⟨decide_eq_true (by lia),decide_eq_true (by lia)⟩)).trans (congrArg some (Int.toNat_natCast _))
 refine wA (xs:=qI gl) (j:=gl.length - 1) rfl ?_ (by decide) ?_ ?_
 ·rw [hp]
  show (match (hput H j (.list (qI gl))).obj j with | some (.list xs)=>some xs | _=>none)=_
  rw [vF]
 ·unfold qI; rw [List.length_map]; exact hs
 ·unfold qI
  rw [List.getElem?_map]
  rw [List.getLast?_eq_getElem?] at h
  rw [h]; rfl
noncomputable def zFl:S:=(.seq (.setA (.var "self") "continuation" (.var "continuation")) (.seq (.assert (.cmp .Eq (.cmp .Eq (.var "continuation") (.glob "C_NONE")) (.cmp .Eq (.idx (.var "goodlines") (.neg (.int 1))) (.var "lno")))) (.seq (.ite (.cmp .NotEq (.idx (.var "goodlines") (.neg (.int 1))) (.var "lno")) (.seq (.expr (.call (.var "push_good") (.cons (.var "lno") .nil))) .nil) .nil) .nil)))
theorem qMx {a b:Nat}:((a:Int) == (b:Int))=decide (a=b):=by
 by_cases e:a=b
 ·subst e; simp
 ·rw [decide_eq_false e]; exact beq_eq_false_iff_ne.mpr fun q=>e (by lia)
theorem qXj (B:Bx (G09 pp) cx) {D:O} (hd:d≠H.nxt) (h:B1 x k H.nxt (base H d D) p m σ) (hP:PO (grown H d D (.list (qI m.gl))) k d fs) (hG:Kx fs 5) (hl:m.gl.length≤1001) {a:Nat} (ha:m.gl.getLast? = some a)
  (hE:decide (m.cont=0)=decide (a=m.lno)) :
  Gd (ex zFl cx σ) fun f σ'=>f=.next∧σ'.toHp=grown H d (.dict (setF "continuation" (.int (m.cont:Nat)) fs)) (.list (qI (if a=m.lno then m.gl else m.gl++[m.lno]))):=by
 unfold zFl
 refine qF (xX (qB h.cont) (qB h.self) (H:=grown H d (.dict (setF "continuation" (.int (m.cont:Nat)) fs)) (.list (qI m.gl))) ?_ ?_)
 ·rw [h.hp,qBz,hP.setA B (by decide) hG.len,qRb hd]
 have h2:B1 x k H.nxt (base H d (.dict (setF "continuation" (.int (m.cont:Nat)) fs))) p m { σ with toHp:=grown H d (.dict (setF "continuation" (.int (m.cont:Nat)) fs)) (.list (qI m.gl)) } :=
  ⟨h.self,h.code,h.cont,h.lev,h.lno,h.good,h.push,h.i,h.n,rfl⟩
 generalize ({ σ with toHp:=grown H d (.dict (setF "continuation" (.int (m.cont:Nat)) fs)) (.list (qI m.gl)) }:St)=σ at h2 ⊢
 have hi:=qVl ha (by lia) h2.hp
 refine qW ?_ ?_
 ·rw [zLo (jN (qB h2.cont) (qP (zKj B))) (jN (xZ (qB h2.good) uV hi) (qB h2.lno)),qMx,show (((m.cont:Nat):Int) == 0)=decide (m.cont=0) from qMx (b:=0),hE,beq_self_eq_true]
 refine qJ (qSt (xZ (qB h2.good) uV hi) (qB h2.lno)) (fun e=>?_) (fun e=>?_)
 ·have h0:a≠m.lno:=by rintro rfl; simp at e
  rw [if_neg h0]
  have ha':cx.app (.bnd H.nxt) [.int (m.lno:Nat)] σ.toHp=okH .none (grown H d (.dict (setF "continuation" (.int (m.cont:Nat)) fs)) (.list (qI (m.gl++[m.lno])))):=by
   rw [B.bd,h2.hp]
   show (match (hput (base H d (.dict (setF "continuation" (.int (m.cont:Nat)) fs))) H.nxt (.list (qI m.gl))).obj H.nxt with | some (.list xs)=>_ | _=>_)=_
   rw [vF]
   have hl:(qI m.gl).length+1≤sizeLine:=by
    unfold qI; rw [List.length_map]
    have:sizeLine=16777216:=by decide
    lia
   refine (if_pos hl).trans ?_
   show okH .none (hput (hput (base H d (.dict (setF "continuation" (.int (m.cont:Nat)) fs))) H.nxt (.list (qI m.gl))) H.nxt (.list (qI m.gl++[.int (m.lno:Nat)])))=_
   rw [qHx,← qBz]
   unfold qI; rw [List.map_append]; rfl
  exact zQ (zN (qB h2.push) (qD (qB h2.lno) rfl) ha') (qG (qG ⟨rfl,rfl⟩))
 ·have h0:a=m.lno:=by
   have:((a:Int) == (m.lno:Int))=true:=by
    cases hq:((a:Int) == (m.lno:Int)) with
    | true=>rfl
    | false=>rw [bne,hq] at e; cases e
   have:=eq_of_beq this
   lia
  rw [if_pos h0]
  exact qG ⟨rfl,h2.hp⟩
theorem qXk (B:Bx (G09 pp) cx) {D:O} (hd:d≠H.nxt) (h:B1 x k H.nxt (base H d D) p R σ) (hP:PO (grown H d D (.list (qI R.gl))) k d fs) (hG:Kx fs 5) (hl:R.gl.length≤1001) (hne:R.gl≠[])
  {gl:List Nat} {c:Nat} (hE:ends R=some (gl,c)) :
  Gd (ex zMk cx σ) fun f σ'=>f=.next∧σ'.toHp=grown H d (.dict (setF "continuation" (.int (c:Nat)) fs)) (.list (qI gl)):=by
 unfold ends at hE
 dsimp only at hE
 obtain ⟨a,ha⟩:∃ a,R.gl.getLast? = some a:=⟨R.gl.getLast hne,List.getLast?_eq_some_getLast hne⟩
 have hla:(R.gl.getLast? = some R.lno) ↔ a=R.lno:=by rw [ha]; exact ⟨fun q=>Option.some.inj q,fun q=>congrArg some q⟩
 have main:∀ (c':Nat) (σ:St),(if R.cont≠2∧R.cont≠3∧0 < R.level then 4 else R.cont)=c'→B1 x k H.nxt (base H d D) p { R with cont:=c' } σ→Gd (ex zFl cx σ) fun f σ'=>f=.next∧σ'.toHp=grown H d (.dict (setF "continuation" (.int (c:Nat)) fs)) (.list (qI gl)):=by
  intro c' σ hc' h'
  rw [hc'] at hE
  by_cases hq:decide (c'=0)=decide (R.gl.getLast? = some R.lno)
  ·rw [if_pos hq] at hE
   have e:=Option.some.inj hE
   have e1:(if R.gl.getLast? = some R.lno then R.gl else R.gl++[R.lno])=gl:=congrArg Prod.fst e
   have e2:c'=c:=congrArg Prod.snd e
   subst e2
   have r:=qXj B hd h' hP hG hl (a:=a) ha (by rw [show decide (c'=0)=decide (R.gl.getLast? = some R.lno) from hq]; exact decide_eq_decide.mpr hla)
   have e3:(if a=R.lno then R.gl else R.gl++[R.lno])=gl:=by
    rw [← e1]
    by_cases q:a=R.lno
    ·rw [if_pos q,if_pos (hla.mpr q)]
    ·rw [if_neg q,if_neg fun q'=>q (hla.mp q')]
   rw [← e3]
   exact r
  ·rw [if_neg hq] at hE; cases hE
 show Gd (ex (.seq (.ite (.and (.cmp .NotEq (.var "continuation") (.glob "C_STRING_FIRST_LINE")) (.and (.cmp .NotEq (.var "continuation") (.glob "C_STRING_NEXT_LINES")) (.cmp .Gt (.var "level") (.int 0)))) (.seq (.asg "continuation" (.glob "C_BRACKET")) .nil) .nil) zFl) cx σ) _
 refine qJ (t:=(decide (R.cont≠2) && (decide (R.cont≠3) && decide (0 < R.level)))) (qGg (p:=decide (R.cont≠2)) ?_ fun _=>qGg (p:=decide (R.cont≠3)) ?_ fun _=>?_) (fun e=>?_) (fun e=>?_)
 ·rw [qSt (qB h.cont) (qP (zMf B))]
  congr 2
  by_cases e:R.cont=2
  ·rw [e]; rfl
  ·rw [decide_eq_true e]; simpa using (by lia:¬ ((R.cont:Nat):Int)=2)
 ·rw [qSt (qB h.cont) (qP (zKi B))]
  congr 2
  by_cases e:R.cont=3
  ·rw [e]; rfl
  ·rw [decide_eq_true e]; simpa using (by lia:¬ ((R.cont:Nat):Int)=3)
 ·rw [qMe (qB h.lev) rfl]
  congr 2
  by_cases e:0 < R.level
  ·rw [decide_eq_true e]; exact decide_eq_true (by lia)
  ·rw [decide_eq_false e]; exact decide_eq_false (by lia)
 ·have e':R.cont≠2∧R.cont≠3∧0 < R.level:=by
   rw [Bool.and_eq_true,Bool.and_eq_true] at e
   exact ⟨of_decide_eq_true e.1,of_decide_eq_true e.2.1,of_decide_eq_true e.2.2⟩
  exact gd_sasg (qP (zMe B)) (qG (main 4 _ (if_pos e') (h.setcont rfl)))
 ·have e':¬ (R.cont≠2∧R.cont≠3∧0 < R.level):=by
   rintro ⟨h1,h2,h3⟩
   rw [decide_eq_true h1,decide_eq_true h2,decide_eq_true h3] at e; cases e
  exact main R.cont σ (if_neg e') h
end
section
variable {cx:Sx} {pp:Params} {σ:St} {x:PySem.Str} {k d j p:Nat} {H:Hp} {m R:Mk} {fs:qX}
noncomputable def qLr:S:=(.seq (.asg "continuation" (.glob "C_NONE")) (.seq (.asgs "level" "lno" (.int 0)) (.seq (.ownA (.var "self") "goodlines" "goodlines" (.list (.cons (.int 0) .nil))) (.seq (.asg "push_good" (.attr (.var "goodlines") "append")) (.seq (.asg2 "i" "n" (.tup (.cons (.int 0) (.cons (.call (.glob "len") (.cons (.var "code") .nil)) .nil)))) (.seq zLv zMk))))))
theorem qOp:kG=(.seq (.ite (.cmp .GtE (.attr (.var "self") "study_level") (.int 1)) (.seq .ret0 .nil) .nil) (.seq (.setA (.var "self") "study_level" (.int 1)) (.seq (.asg "code" (.attr (.var "self") "code")) (.sq "code" "trans" zIg qLr)))):=rfl
theorem qSe (B:Bx (G09 pp) cx) (hs:x.length≤1000) (hd:d < H.nxt) (hk:k < H.nxt) (h1:σ.loc.lookup ("self" : PySem.Str)=some (.ref k)) (h2:σ.loc.lookup ("code" : PySem.Str)=some (.str x)) (hH:σ.toHp=hput H d (.dict fs)) (hP:PO σ.toHp k d fs)
  (hF:Kx fs 4) (hR:scan 1000 .out x.cps.toList ⟨0,0,[0],0⟩=some R) {gl:List Nat} {c:Nat} (hE:ends R=some (gl,c)) (hne:R.gl≠[]) :
  Gd (ex qLr cx σ) fun f σ'=>f=.next∧σ'.toHp=grown H d (.dict (setF "continuation" (.int (c:Nat)) (setF "goodlines" (.ref H.nxt) fs))) (.list (qI gl)):=by
 have hdn:d≠H.nxt:=Nat.ne_of_lt hd
 have hkn:k≠H.nxt:=Nat.ne_of_lt hk
 have hPg:∀ (D:qX) (L:O),PO (grown H d (.dict D) L) k d D:=fun D L=>by
  refine ⟨?_,?_,hP.ne⟩
  ·have e:=hP.inst
   rw [hH,zK hP.ne] at e
   exact (if_neg hkn).trans ((if_neg hP.ne).trans e)
  ·exact (if_neg hdn).trans (if_pos rfl)
 unfold qLr
 refine gd_sasg (qP (zKj B)) ?_
 replace h1:=@qA σ "continuation" "self" (.int 0) _ (by decide) h1
 replace h2:=@qA σ "continuation" "code" (.int 0) _ (by decide) h2
 have h3:=@qE σ "continuation" (.int 0)
 replace hH:(σ.set "continuation" (.int 0)).toHp=_:=hH
 replace hP:PO (σ.set "continuation" (.int 0)).toHp k d fs:=hP
 generalize σ.set "continuation" (.int 0)=σ at h1 h2 h3 hH hP ⊢
 refine qF (zEy (v:=.int 0) (σ₁:=σ) rfl ?_)
 replace h1:=@qA _ "lno" "self" (.int 0) _ (by decide) (@qA σ "level" "self" (.int 0) _ (by decide) h1)
 replace h2:=@qA _ "lno" "code" (.int 0) _ (by decide) (@qA σ "level" "code" (.int 0) _ (by decide) h2)
 replace h3:=@qA _ "lno" "continuation" (.int 0) _ (by decide) (@qA σ "level" "continuation" (.int 0) _ (by decide) h3)
 have h4:=@qA (σ.set "level" (.int 0)) "lno" "level" (.int 0) _ (by decide) qE
 have h5:=@qE (σ.set "level" (.int 0)) "lno" (.int 0)
 replace hH:((σ.set "level" (.int 0)).set "lno" (.int 0)).toHp=_:=hH
 replace hP:PO ((σ.set "level" (.int 0)).set "lno" (.int 0)).toHp k d fs:=hP
 generalize (σ.set "level" (.int 0)).set "lno" (.int 0)=σ at h1 h2 h3 h4 h5 hH hP ⊢
 have hnx:σ.nxt=H.nxt:=by
  show σ.toHp.nxt=_
  rw [hH]; rfl
 have hP2:PO (σ.add (.list [.int 0])).toHp k d fs:=by
  have e:∀ i,i≠H.nxt→(σ.add (.list [.int 0])).obj i=σ.obj i:=fun i hi=>if_neg (by rw [hnx]; exact hi)
  exact ⟨(e k hkn).trans hP.inst,(e d hdn).trans hP.dict,hP.ne⟩
 have hadd:(σ.add (.list [.int 0])).toHp=Hp.add (hput H d (.dict fs)) (.list [.int 0]):=by
  show Hp.add σ.toHp _=_
  rw [hH]
 refine qF (zEv (xs:=[.int 0]) (σ₁:=σ) (σ₂:=σ.add (.list [.int 0])) (H:=grown H d (.dict (setF "goodlines" (.ref H.nxt) fs)) (.list [.int 0])) (vI (qD rfl rfl) (by decide)) (qB h1) ?_ ?_)
 ·rw [hP2.setA B (by decide) hF.len,hadd,hnx,zGg hdn]
 rw [hnx]
 replace h1:(({ σ.add (.list [.int 0]) with toHp:=grown H d (.dict (setF "goodlines" (.ref H.nxt) fs)) (.list [.int 0]) }:St).set "goodlines" (.ref H.nxt)).loc.lookup ("self" : PySem.Str)=_:=qA (by decide) h1
 replace h2:(({ σ.add (.list [.int 0]) with toHp:=grown H d (.dict (setF "goodlines" (.ref H.nxt) fs)) (.list [.int 0]) }:St).set "goodlines" (.ref H.nxt)).loc.lookup ("code" : PySem.Str)=_:=qA (by decide) h2
 replace h3:(({ σ.add (.list [.int 0]) with toHp:=grown H d (.dict (setF "goodlines" (.ref H.nxt) fs)) (.list [.int 0]) }:St).set "goodlines" (.ref H.nxt)).loc.lookup ("continuation" : PySem.Str)=_:=qA (by decide) h3
 replace h4:(({ σ.add (.list [.int 0]) with toHp:=grown H d (.dict (setF "goodlines" (.ref H.nxt) fs)) (.list [.int 0]) }:St).set "goodlines" (.ref H.nxt)).loc.lookup ("level" : PySem.Str)=_:=qA (by decide) h4
 replace h5:(({ σ.add (.list [.int 0]) with toHp:=grown H d (.dict (setF "goodlines" (.ref H.nxt) fs)) (.list [.int 0]) }:St).set "goodlines" (.ref H.nxt)).loc.lookup ("lno" : PySem.Str)=_:=qA (by decide) h5
 have h6:(({ σ.add (.list [.int 0]) with toHp:=grown H d (.dict (setF "goodlines" (.ref H.nxt) fs)) (.list [.int 0]) }:St).set "goodlines" (.ref H.nxt)).loc.lookup ("goodlines" : PySem.Str)=_:=qE
 have hg:(({ σ.add (.list [.int 0]) with toHp:=grown H d (.dict (setF "goodlines" (.ref H.nxt) fs)) (.list [.int 0]) }:St).set "goodlines" (.ref H.nxt)).toHp=grown H d (.dict (setF "goodlines" (.ref H.nxt) fs)) (.list [.int 0]):=rfl
 clear hH hP hP2 hadd hnx
 generalize ({ σ.add (.list [.int 0]) with toHp:=grown H d (.dict (setF "goodlines" (.ref H.nxt) fs)) (.list [.int 0]) }:St).set "goodlines" (.ref H.nxt)=σ at h1 h2 h3 h4 h5 h6 hg ⊢
 have hG:Kx (setF "goodlines" (.ref H.nxt) fs) 5:=hF.set (i:=4) (by decide) (by decide) (by decide +kernel)
 generalize setF "goodlines" (.ref H.nxt) fs=fs' at hg hG
 refine gd_sasg (zR (qB h6) (qCd B (xs:=[.int 0]) (by rw [hg]; exact if_pos rfl))) ?_
 replace h1:=@qA σ "push_good" "self" (.bnd H.nxt) _ (by decide) h1
 replace h2:=@qA σ "push_good" "code" (.bnd H.nxt) _ (by decide) h2
 replace h3:=@qA σ "push_good" "continuation" (.bnd H.nxt) _ (by decide) h3
 replace h4:=@qA σ "push_good" "level" (.bnd H.nxt) _ (by decide) h4
 replace h5:=@qA σ "push_good" "lno" (.bnd H.nxt) _ (by decide) h5
 replace h6:=@qA σ "push_good" "goodlines" (.bnd H.nxt) _ (by decide) h6
 have h7:=@qE σ "push_good" (.bnd H.nxt)
 replace hg:(σ.set "push_good" (.bnd H.nxt)).toHp=_:=hg
 generalize σ.set "push_good" (.bnd H.nxt)=σ at h1 h2 h3 h4 h5 h6 h7 hg ⊢
 refine qF (qAv (qDf (qD rfl (qD (uF B h2) rfl)) (by show 2≤sizeLine; decide)) ?_)
 have hB:B1 x k H.nxt (base H d (.dict fs')) 0 ⟨0,0,[0],0⟩ ((σ.set "i" (.int 0)).set "n" (.int (x.length:Nat))) :=
  ⟨qA (by decide) (qA (by decide) h1),qA (by decide) (qA (by decide) h2),qA (by decide) (qA (by decide) h3),qA (by decide) (qA (by decide) h4),qA (by decide) (qA (by decide) h5),qA (by decide) (qA (by decide) h6),qA (by decide) (qA (by decide) h7),qA (by decide) qE,qE,hg⟩
 generalize (σ.set "i" (.int 0)).set "n" (.int (x.length:Nat))=σ at hB ⊢
 refine zX ((qUx (R:=R) B hs (Nat.le_refl 1000) ⟨1000,0,_,Nat.le_refl _,Nat.zero_le _,by show 1≤1; decide,hB,hR⟩).mono ?_)
 rintro f σ' ⟨rfl,p,hB',hl⟩
 exact qXk B hdn hB' (hPg _ _) hG hl hne hE
theorem qOn (B:Bx (G09 pp) cx) (hd:d < H.nxt) (hk:k < H.nxt) (hP:PO H k d fs) {iw tw:Int} (hF:FsP fs iw tw x 0) (hs:small x) {gl:List Nat} {c:Nat} (hS:study (lastp (four (x.cps.toList.map tr12)))=some (gl,c))
  (hne:∀ R,scan 1000 .out (lastp (four (x.cps.toList.map tr12))) ⟨0,0,[0],0⟩=some R→R.gl≠[]) {l:List (PySem.Str×V)} (h1:l.lookup ("self" : PySem.Str)=some (.ref k)) {ce:List (PySem.Str×Nat)} :
  Gd (ex kG cx { toHp:=H,loc:=l,cel:=ce }) fun f σ'=>f=.next∧σ'.toHp=grown H d (.dict (setF "continuation" (.int (c:Nat)) (setF "goodlines" (.ref H.nxt) (setF "study_level" (.int 1) fs)))) (.list (qI gl)):=by
 obtain ⟨x',e1,e2⟩:=zHo zGs hs
 have hl:x'.length≤1000:=by
  have h3:x'.cps.toList.length≤x.cps.toList.length:=by
   rw [e2]
   refine Nat.le_trans (jB (by decide) _ _) (Nat.le_trans (jB (by decide) _ _) (Nat.le_trans (jB (by decide) _ _) (Nat.le_trans (jB (by decide) _ _) (Nat.le_trans (jB (by decide) _ _) ?_))))
   rw [List.length_map]; exact Nat.le_refl _
  rw [Array.length_toList,Array.length_toList] at h3
  exact Nat.le_trans h3 hs.2
 obtain ⟨R,hR,hE⟩:∃ R,scan 1000 .out (lastp (four (x.cps.toList.map tr12))) ⟨0,0,[0],0⟩=some R∧ends R=some (gl,c):=Option.bind_eq_some_iff.mp hS
 rw [qOp]
 have h1':({ toHp:=H,loc:=l,cel:=ce }:St).loc.lookup ("self" : PySem.Str)=some (.ref k):=h1
 have hP':PO ({ toHp:=H,loc:=l,cel:=ce }:St).toHp k d fs:=hP
 have hH':({ toHp:=H,loc:=l,cel:=ce }:St).toHp=H:=rfl
 generalize ({ toHp:=H,loc:=l,cel:=ce }:St)=σ at h1' hP' hH' ⊢
 refine qJ (t:=decide ((0:Int) ≥ 1)) (jQ (zR (qB h1') (hP'.fld B (by decide) hF.lev rfl)) rfl) (fun q=>absurd q (by decide)) fun _=>?_
 refine qF (xX (σ₁:=σ) (v:=.int 1) rfl (qB h1') (hP'.setA B (by decide) hF.kx.len) ?_)
 have hP2:PO ({ σ with toHp:=hput σ.toHp d (.dict (setF "study_level" (.int 1) fs)) }:St).toHp k d _:=hP'.put
 have h12:({ σ with toHp:=hput σ.toHp d (.dict (setF "study_level" (.int 1) fs)) }:St).loc.lookup ("self" : PySem.Str)=some (.ref k):=h1'
 have hH2:({ σ with toHp:=hput σ.toHp d (.dict (setF "study_level" (.int 1) fs)) }:St).toHp=hput H d (.dict (setF "study_level" (.int 1) fs)):=by rw [← hH']
 generalize ({ σ with toHp:=hput σ.toHp d (.dict (setF "study_level" (.int 1) fs)) }:St)=σ at hP2 h12 hH2 ⊢
 have hF2:=hF.setLev (l':=1)
 generalize setF "study_level" (.int 1) fs=fs2 at hP2 hH2 hF2 ⊢
 refine gd_sasg (zR (qB h12) (hP2.fld B (by decide) hF2.code rfl)) ?_
 refine zMh (f:=tr12) (v:=x) (v':=x') qE (vt:=.top (.ref 91)) (by rw [B.gl]; rfl) (by rw [B.tr]; rfl) e1 ?_
 exact qSe B hl hd hk (qA (by decide) (qA (by decide) h12)) qE hH2 hP2 hF2.kx (by rw [e2]; exact hR) hE (hne R hR)
end
noncomputable abbrev T (pp:Params) (n:Nat):Sx:=tower (G09 pp) rows09 x07 155 n
section
variable {pp:Params} {n k d j:Nat} {H:Hp} {fs:qX} {x:PySem.Str}
theorem zJ {f:Addr} {sc:Scope} {ps:List PySem.Str} {b:S} {args:List V} {cx:Sx} {fl:Fl} {σ':St} {v:V} (hrow:rows09.lookup f=some (sc,ps,b)) (hl:args.length=ps.length) (he:ex b cx (entry (ps.zip args) H)=.ok fl σ') (hr:qQc fl σ'=.ok v σ') (hc:yR sc ps=true:=by decide +kernel):qY rows09 cx f args H=.ok v σ':=by
 unfold qY
 rw [hrow]
 dsimp only
 unfold jU
 rw [if_pos hl,yZ hc,Rs.bind_ok he,hr]
theorem qV {f:Addr} (hx:jT f=none) (hf:f≠249∧f≠63) {args:List V}:∀ n,(T pp (n+1)).app (.top (.ref f)) args H=qY rows09 (T pp n) f args H
 | 0=>by
  show (if f=63 then _ else (jT f).elim (qY rows09 (T pp 0) f args H) _)=_
  rw [if_neg hf.2,hx]; rfl
 | n+1=>by
  show (if f=63 then _ else (jT f).elim (qBt (G09 pp) (qY rows09 (T pp n) 155) (qY rows09 (T pp (n+1))) f args H) _)=_
  rw [if_neg hf.2,hx]
  exact if_neg hf.1
theorem qYv {b:Addr} {code:Array Nat} (hx:jT b=some code) {args:List V} (n:Nat):(T pp n).app (.top (.ref b)) args H=vO code args H:=by
 have hb:¬ b=63:=by
  rintro rfl
  have e:jT 63=none:=rfl
  rw [e] at hx; cases hx
 have key:∀ fns:Fns,(if b=63 then vD args H else (jT b).elim (fns b args H) fun code=>vO code args H)=vO code args H:=fun fns=>by
  rw [if_neg hb,hx]; rfl
 match n with
 | 0=>exact key _
 | 1=>exact key _
 | n+2=>exact key _
theorem PO.get {cx:Sx} (B:Bx (G09 pp) cx) (h:PO H k d fs) {m:PySem.Str} {a:Addr} (hm:fs.lookup m=none) (ha:meths09.lookup m=some a):cx.get (.ref k) m H=some (.top (.ref a),[.ref k]):=by
 rw [B.get]
 unfold qHy
 dsimp only
 rw [h.at]
 dsimp only
 rw [if_pos hm]
 show (meths09.lookup m).map _=_
 rw [ha]; rfl
structure FsI (fs:qX) (iw tw:Int):Prop where
 kx:Kx fs 2
 iw:fs.lookup ("indentwidth" : PySem.Str)=some (.int iw)
 tw:fs.lookup ("tabwidth" : PySem.Str)=some (.int tw)
theorem FsP.toI {fs:qX} {iw tw:Int} {x:PySem.Str} {l:Int} (h:FsP fs iw tw x l):FsI fs iw tw:=⟨h.kx.less (by decide),h.iw,h.tw⟩
theorem FsI.set {fs:qX} {iw tw:Int} (h:FsI fs iw tw) (x:PySem.Str):FsP (setF "study_level" (.int 0) (setF "code" (.str x) fs)) iw tw x 0 :=
 ⟨((h.kx.set (i:=2) (by decide) (by decide) (by decide +kernel)).set (i:=3) (by decide) (by decide) (by decide +kernel)),(qC (by decide)).trans ((qC (by decide)).trans h.iw),(qC (by decide)).trans ((qC (by decide)).trans h.tw),(qC (by decide)).trans zB,zB⟩
theorem qDy (hs:x.length≤1000) {l:List Nat} {c:Nat} (hx:x.cps.toList=l++[c]):jK H (.str x) (.int (-1))=.ok (.str ⟨#[c]⟩):=by
 have hl:x.length=l.length+1:=by
  have:=congrArg List.length hx
  rw [Array.length_toList,List.length_append,List.length_singleton] at this
  exact this
 have hq:seqIndex? (-1) x.length=some l.length:=by
  have e:(if (-1:Int) < 0 then (-1:Int)+x.length else -1)=((l.length:Nat):Int):=by rw [if_pos (by decide)]; lia
  unfold seqIndex?
  rw [e]
  exact (if_pos (by rw [Bool.and_eq_true]; exact ⟨decide_eq_true (by lia),decide_eq_true (by lia)⟩)).trans (congrArg some (Int.toNat_natCast _))
 refine qNj (j:=l.length) (by decide) hq ?_
 rw [← Array.getElem?_toList,hx,List.getElem?_append_right (Nat.le_refl _),Nat.sub_self]
 rfl
noncomputable def qZe (x:PySem.Str):Prop:=x.cps.toList=[]∨∃ l,x.cps.toList=l++[10]
theorem uY (hs:x.length≤1000) (hx:qZe x) (hP:PO H k d fs) {iw tw:Int} (hF:FsI fs iw tw):∃ σ',(T pp (n+1)).app (.top (.ref 162)) [.ref k,.str x] H=.ok .none σ'∧σ'.toHp=hput H d (.dict (setF "study_level" (.int 0) (setF "code" (.str x) fs))):=by
 have B:=qCl (G:=G09 pp) (rows:=rows09) (xr:=x07) (fI:=155) n
 have main:Gd (ex wN (T pp n) (entry ((["self", "s"]:List PySem.Str).zip [.ref k,.str x]) H)) fun f σ'=>f=.next∧σ'.toHp=hput H d (.dict (setF "study_level" (.int 0) (setF "code" (.str x) fs))):=by
  have h1:(entry ((["self", "s"]:List PySem.Str).zip [.ref k,.str x]) H).loc.lookup ("self" : PySem.Str)=some (.ref k):=rfl
  have h2:(entry ((["self", "s"]:List PySem.Str).zip [.ref k,.str x]) H).loc.lookup ("s" : PySem.Str)=some (.str x):=rfl
  have h3:(entry ((["self", "s"]:List PySem.Str).zip [.ref k,.str x]) H).toHp=H:=rfl
  generalize entry ((["self", "s"]:List PySem.Str).zip [.ref k,.str x]) H=σ at h1 h2 h3 ⊢
  unfold wN
  refine qW ?_ ?_
  ·have e1:=jN (uF B h2) (show ev (T pp n).toCx (.int 0) σ=.ok (.int 0) σ from rfl)
   have e2:∀ q:Bool,(((x.length:Nat):Int) == 0)=q→ev (T pp n).toCx (.or (.cmp .Eq (.call (.glob "len") (.cons (.var "s") .nil)) (.int 0)) (.cmp .Eq (.idx (.var "s") (.neg (.int 1))) (.str "\n"))) σ=.ok (.bool true) σ:=by
    intro q hq
    rw [hq] at e1
    cases q with
    | true=>exact qJa (q:=true) e1 (fun h=>by cases h)
    | false =>
     refine qJa (q:=true) e1 (fun _=>?_)
     rcases hx with hx | ⟨l,hx⟩
     ·exfalso
      have h0:x.length=0:=by
       have:=congrArg List.length hx
       rw [Array.length_toList] at this
       exact this
      rw [h0] at hq; cases hq
     ·rw [yK (xZ (qB h2) uV (qDy hs hx)) rfl,nlS]; rfl
   exact e2 _ rfl
  rw [← h3] at hP ⊢
  refine qF (xX (qB h2) (qB h1) (hP.setA B (by decide) hF.kx.len) ?_)
  have h4:({ σ with toHp:=hput σ.toHp d (.dict (setF "code" (.str x) fs)) }:St).loc.lookup ("self" : PySem.Str)=some (.ref k):=h1
  refine qF (xX (v:=.int 0) rfl (qB h4) ((hP.put (fs':=setF "code" (.str x) fs)).setA B (by decide) (hF.kx.set (i:=2) (by decide) (by decide) (by decide +kernel)).len) (qG ⟨rfl,?_⟩))
  exact qHx
 obtain ⟨f,σ',e,rfl,e2⟩:=main
 refine ⟨σ',?_,e2⟩
 rw [qV rfl (by decide)]
 exact zJ (by rfl) rfl e rfl
structure Ready (H:Hp) (k d:Nat) (fs:qX) (iw tw:Int) (x:PySem.Str) (gl:List Nat) (c:Nat):Prop where
 po:PO H k d fs
 k:k < H.nxt
 d:d < H.nxt
 fs:FsP fs iw tw x 0
 small:small x
 study:study (lastp (four (x.cps.toList.map tr12)))=some (gl,c)
 ne:∀ R,scan 1000 .out (lastp (four (x.cps.toList.map tr12))) ⟨0,0,[0],0⟩=some R→R.gl≠[]
noncomputable def stud (fs:qX) (j c:Nat):qX:=setF "continuation" (.int (c:Nat)) (setF "goodlines" (.ref j) (setF "study_level" (.int 1) fs))
theorem qOo {iw tw:Int} {gl:List Nat} {c:Nat} (h:Ready H k d fs iw tw x gl c):∃ σ',(T pp (n+1)).app (.top (.ref 183)) [.ref k] H=.ok .none σ'∧σ'.toHp=grown H d (.dict (stud fs H.nxt c)) (.list (qI gl)):=by
 have B:=qCl (G:=G09 pp) (rows:=rows09) (xr:=x07) (fI:=155) n
 obtain ⟨f,σ',e,rfl,e2⟩:=qOn B h.d h.k h.po h.fs h.small h.study h.ne (l:=[("self", .ref k)]) rfl (ce:=[])
 refine ⟨σ',?_,e2⟩
 rw [qV rfl (by decide)]
 exact zJ (by rfl) rfl e rfl
theorem qWm {D:qX} {L:O} (h:PO H k d fs) (hk:k < H.nxt) (hd:d < H.nxt):PO (grown H d (.dict D) L) k d D :=
 ⟨(if_neg (Nat.ne_of_lt hk)).trans ((if_neg h.ne).trans h.inst),(if_neg (Nat.ne_of_lt hd)).trans (if_pos rfl),h.ne⟩
structure FsS (fs:qX) (iw tw:Int) (x:PySem.Str) (l:Int) (j c:Nat):Prop extends FsP fs iw tw x l where
 kx6:Kx fs 6
 good:fs.lookup ("goodlines" : PySem.Str)=some (.ref j)
 cont:fs.lookup ("continuation" : PySem.Str)=some (.int (c:Nat))
theorem qZw {iw tw:Int} {j c:Nat} (h:FsP fs iw tw x 0):FsS (stud fs j c) iw tw x 1 j c:=by
 have h1:=h.setLev (l':=1)
 have k2:=(h1.kx.set (i:=4) (f:="goodlines") (v:=.ref j) (by decide) (by decide) (by decide +kernel)).set (i:=5) (f:="continuation") (v:=.int (c:Nat)) (by decide) (by decide) (by decide +kernel)
 refine ⟨⟨k2.less (by decide),?_,?_,?_,?_⟩,k2,?_,zB⟩
 ·exact (qC (by decide)).trans ((qC (by decide)).trans h1.iw)
 ·exact (qC (by decide)).trans ((qC (by decide)).trans h1.tw)
 ·exact (qC (by decide)).trans ((qC (by decide)).trans h1.code)
 ·exact (qC (by decide)).trans ((qC (by decide)).trans h1.lev)
 ·exact (qC (by decide)).trans zB
end
end Mine.Lake.L09
end
noncomputable section
namespace Mine.Lake.L09
open PySem PySem.W PyProof.Rows Mine.Lake Mine.Lake.Rp Mine.Lake.Re MineTop
noncomputable def nlT:PySem.Str:="\n"
noncomputable def qUq (x:PySem.Str) (j:Int):Int:=jC x nlT (xD x.length 0) (min (xD x.length j) x.length)
noncomputable def back (x:PySem.Str):Nat→Int→Int
 | 0,p=>p
 | n+1,p=>back x n (qUq x (p - 1)+1)
noncomputable def qKq (code:Array Nat) (x:PySem.Str) (is:List Int):Option (Option (Nat×Nat)):=if wP is=true then jG code x.cps (min (qZ is).toNat x.cps.size) (min (zC is).toNat x.cps.size) else none
noncomputable def qGw (x:PySem.Str) (gl:List Nat):Nat→Nat→Int→Int→Option (Nat×Int×Int)
 | 0,_,_,_=>none
 | _+1,0,p,q=>some (0,p,q)
 | n+1,i+1,p,q=>if p=0 then none else
  (gl[i]?).bind fun a=>(gl[i+1]?).bind fun b=>if Builtin.Range.small (a:Nat) (b:Nat) 1=true then
   (qKq qNg x [back x (Builtin.Range.rangeSize (a:Nat) (b:Nat) 1).toNat p]).bind fun r=>match r with
    | some _=>qGw x gl n i (back x (Builtin.Range.rangeSize (a:Nat) (b:Nat) 1).toNat p) p
    | none=>some (i+1,back x (Builtin.Range.rangeSize (a:Nat) (b:Nat) 1).toNat p,p)
  else none
noncomputable def xU (x:PySem.Str) (i:Int):Option PySem.Str:=if xO i=true then ((seqIndex? i x.length).bind (x.cps[·]?)).map fun c=>⟨#[c]⟩ else none
noncomputable def ln (l:List Int):Int:=(l.length:Nat)
structure S2 where
 p:Int
 stack:List Int
 brk:List (Int×Int)
 last:PySem.Str
noncomputable def qGl (x:PySem.Str) (p:Int):Nat→Int→Option Int
 | 0,_=>none
 | n+1,i=>if i ≥ p then (xU x i).bind fun c=>if Txt.contains " \t\n" c=true then qGl x p n (i - 1) else some i else some i
noncomputable def qMh (x:PySem.Str) (q:Int) (s:S2):Option S2:=(xU x s.p).bind fun ch =>
 if Txt.contains "([{" ch=true then some { p:=s.p+1,stack:=s.stack++[s.p],brk:=s.brk++[(s.p,ln (s.stack++[s.p]))],last:=ch }
 else if Txt.contains ")]}" ch=true then some { p:=s.p+1,stack:=s.stack.dropLast,brk:=s.brk++[(s.p+1,ln s.stack.dropLast)],last:=ch }
 else if ch = "\"" ∨ ch = "'" then (qKq qAq x [s.p,q]).bind fun r=>r.bind fun m=>some { p:=(m.2:Nat),stack:=s.stack,brk:=s.brk++[(s.p,ln s.stack+1)]++[(((m.2:Nat):Int),ln s.stack)],last:=ch }
 else if ch = "#" then (if jP x nlT (xD x.length s.p) (min (xD x.length q) x.length)+1 > 0 then some { p:=jP x nlT (xD x.length s.p) (min (xD x.length q) x.length)+1,stack:=s.stack,brk:=s.brk++[(s.p,ln s.stack+1)]++[(jP x nlT (xD x.length s.p) (min (xD x.length q) x.length)+1,ln s.stack)],last:=s.last } else none)
 else if ch = "\\" ∧ s.p+1 < q then (xU x (s.p+1)).bind fun d=>some { s with p:=s.p+1+1,last:=if d=nlT then s.last else ch++d }
 else none
noncomputable def qMi (x:PySem.Str) (q:Int) (s:S2):Option (Bool×S2):=if s.stack.length > 1000∨s.brk.length > 1000 then none else (qKq qYg x [s.p,q]).bind fun r=>match r with
 | some m=>(qGl x s.p 1000 ((m.2:Nat) - 1)).bind fun i =>
  (if i ≥ s.p then xU x i else some s.last).bind fun l =>
   if ((m.2:Nat):Int) ≥ q then some (true,{ s with p:=(m.2:Nat),last:=l }) else (qMh x q { s with p:=(m.2:Nat),last:=l }).map fun s=>(false,s)
 | none=>(qMh x q s).map fun s=>(false,s)
noncomputable def yS (x:PySem.Str) (q:Int):Nat→S2→Option S2
 | 0,_=>none
 | n+1,s=>if s.p < q then (qMi x q s).bind fun r=>if r.1=true then some r.2 else yS x q n r.2 else some s
noncomputable def qRi (o:Option S2):Option S2:=o.bind fun s=>if s.stack.length≤1000∧s.brk.length≤1000 then some s else none
noncomputable def wL (x:PySem.Str) (gl:List Nat):Option S2:=if gl.length=0∨gl.length > 1000 then none else (qGw x gl 1000 (gl.length - 1) (x.length:Nat) 0).bind fun r =>
 if r.1=0 then (if r.2.1=0 then qRi (yS x r.2.1 1000 ⟨r.2.1,[],[(r.2.1,0)],""⟩) else none) else qRi (yS x r.2.2 1000 ⟨r.2.1,[],[(r.2.1,0)],""⟩)
noncomputable def codes:List PySem.Str:=["def f:\n  return (1,\n", "  return (1,\n", "", "x = '''\ntry:\n", "try:\n", "a\nif b:\n", "if b:\n", "y = \\\n", "else\n(')')\n\n#c\n", "(')')\n\n#c\n", "\n#c\n", "#c\n"]
structure Tell where
 gl:List Nat
 c:Nat
 s:S2
noncomputable def tell (x:PySem.Str):Option Tell:=(study (lastp (four (x.cps.toList.map tr12)))).bind fun r=>(wL x r.1).map fun s=>⟨r.1,r.2,s⟩
noncomputable def qGh (x:PySem.Str):Nat×Bool:=if Txt.contains x "'''" = true then (3,false) else if Txt.contains x "(1," = true then (4,false) else if Txt.contains x "\\" = true then (1,false) else (0,decide (cut x.cps.toList (some (-2)) none=[58,10]))
noncomputable def qTl (x:PySem.Str):Bool:=match tell x with
 | some t=>decide (t.c=(qGh x).1) && (decide (t.s.last = ":") == (qGh x).2) && decide (t.gl≠[]) && (match scan 1000 .out (lastp (four (x.cps.toList.map tr12))) ⟨0,0,[0],0⟩ with | some R=>!R.gl.isEmpty | none=>true)
 | none=>false
theorem qTk:codes.all qTl=true:=by decide +kernel
noncomputable def rfB:S:=(.seq (.asg "p" (.bin .Add (.meth (.var "code") "rfind" (.cons (.str "\n") (.cons (.int 0) (.cons (.bin .Sub (.var "p") (.int 1)) .nil)))) (.int 1))) .nil)
noncomputable def w1B:S:=(.seq (.assert (.var "p")) (.seq (.asg "q" (.var "p")) (.seq (.each "nothing" (.call (.glob "range") (.cons (.idx (.var "goodlines") (.bin .Sub (.var "i") (.int 1))) (.cons (.idx (.var "goodlines") (.var "i")) .nil))) rfB) (.seq (.ite (.call (.glob "_junkre") (.cons (.var "code") (.cons (.var "p") .nil))) (.seq (.asg "i" (.bin .Sub (.var "i") (.int 1))) .nil) (.seq .brk .nil)) .nil))))
noncomputable def zGp:S:=(.seq (.asg "i" (.bin .Sub (.var "i") (.int 1))) .nil)
noncomputable def zGo:S:=(.loop 1000 (.and (.cmp .GtE (.var "i") (.var "p")) (.cmp .In (.idx (.var "code") (.var "i")) (.str " \t\n"))) zGp .nil)
noncomputable def zGv:S:=(.seq (.asg "newp" (.meth (.var "m") "end" .nil)) (.seq (.asg "i" (.bin .Sub (.var "newp") (.int 1))) (.seq zGo (.seq (.ite (.cmp .GtE (.var "i") (.var "p")) (.seq (.asg "lastch" (.idx (.var "code") (.var "i"))) .nil) .nil) (.seq (.asg "p" (.var "newp")) (.seq (.ite (.cmp .GtE (.var "p") (.var "q")) (.seq .brk .nil) .nil) .nil))))))
noncomputable def qGj:S:=(.seq (.asg "ch" (.idx (.var "code") (.var "p"))) (.seq (.ite (.cmp .In (.var "ch") (.str "([{")) (.seq (.expr (.call (.var "push_stack") (.cons (.var "p") .nil))) (.seq (.expr (.meth (.var "bracketing") "append" (.cons (.tup (.cons (.var "p") (.cons (.call (.glob "len") (.cons (.var "stack") .nil)) .nil))) .nil))) (.seq (.asg "lastch" (.var "ch")) (.seq (.asg "p" (.bin .Add (.var "p") (.int 1))) (.seq .cont .nil))))) .nil) (.seq (.ite (.cmp .In (.var "ch") (.str ")]}")) (.seq (.ite (.var "stack") (.seq (.delL "stack") .nil) .nil) (.seq (.asg "lastch" (.var "ch")) (.seq (.asg "p" (.bin .Add (.var "p") (.int 1))) (.seq (.expr (.meth (.var "bracketing") "append" (.cons (.tup (.cons (.var "p") (.cons (.call (.glob "len") (.cons (.var "stack") .nil)) .nil))) .nil))) (.seq .cont .nil))))) .nil) (.seq (.ite (.or (.cmp .Eq (.var "ch") (.str "\"")) (.cmp .Eq (.var "ch") (.str "'"))) (.seq (.expr (.meth (.var "bracketing") "append" (.cons (.tup (.cons (.var "p") (.cons (.bin .Add (.call (.glob "len") (.cons (.var "stack") .nil)) (.int 1)) .nil))) .nil))) (.seq (.asg "lastch" (.var "ch")) (.seq (.asg "p" (.meth (.call (.glob "_match_stringre") (.cons (.var "code") (.cons (.var "p") (.cons (.var "q") .nil)))) "end" .nil)) (.seq (.expr (.meth (.var "bracketing") "append" (.cons (.tup (.cons (.var "p") (.cons (.call (.glob "len") (.cons (.var "stack") .nil)) .nil))) .nil))) (.seq .cont .nil))))) .nil) (.seq (.ite (.cmp .Eq (.var "ch") (.str "#")) (.seq (.expr (.meth (.var "bracketing") "append" (.cons (.tup (.cons (.var "p") (.cons (.bin .Add (.call (.glob "len") (.cons (.var "stack") .nil)) (.int 1)) .nil))) .nil))) (.seq (.asg "p" (.bin .Add (.meth (.var "code") "find" (.cons (.str "\n") (.cons (.var "p") (.cons (.var "q") .nil)))) (.int 1))) (.seq (.assert (.cmp .Gt (.var "p") (.int 0))) (.seq (.expr (.meth (.var "bracketing") "append" (.cons (.tup (.cons (.var "p") (.cons (.call (.glob "len") (.cons (.var "stack") .nil)) .nil))) .nil))) (.seq .cont .nil))))) .nil) (.seq (.assert (.cmp .Eq (.var "ch") (.str "\\"))) (.seq (.asg "p" (.bin .Add (.var "p") (.int 1))) (.seq (.assert (.cmp .Lt (.var "p") (.var "q"))) (.seq (.ite (.cmp .NotEq (.idx (.var "code") (.var "p")) (.str "\n")) (.seq (.asg "lastch" (.bin .Add (.var "ch") (.idx (.var "code") (.var "p")))) .nil) .nil) (.seq (.asg "p" (.bin .Add (.var "p") (.int 1))) .nil))))))))))
noncomputable def w2B:S:=(.seq (.asg "m" (.call (.glob "_chew_ordinaryre") (.cons (.var "code") (.cons (.var "p") (.cons (.var "q") .nil))))) (.seq (.ite (.var "m") zGv .nil) qGj))
noncomputable def w1L:S:=(.loop 1000 (.var "i") w1B .nil)
noncomputable def w2L:S:=(.loop 1000 (.cmp .Lt (.var "p") (.var "q")) w2B .nil)
noncomputable def qMq:S:=(.seq (.setA (.var "self") "lastch" (.var "lastch")) (.seq (.setA (.var "self") "lastopenbracketpos" (.ite (.var "stack") (.idx (.var "stack") (.neg (.int 1))) .none)) (.seq (.setA (.var "self") "stmt_bracketing" (.call (.glob "tuple") (.cons (.var "bracketing") .nil))) .nil)))
noncomputable def qUk:S:=(.seq (.ite (.cmp .Eq (.var "i") (.int 0)) (.seq (.assert (.cmp .Eq (.var "p") (.int 0))) (.seq (.asg "q" (.var "p")) .nil)) .nil) (.seq (.setA2 (.var "self") "stmt_start" (.var "self") "stmt_end" (.tup (.cons (.var "p") (.cons (.var "q") .nil)))) (.seq (.asg "lastch" (.str "")) (.seq (.own "stack" (.list .nil)) (.seq (.asg "push_stack" (.attr (.var "stack") "append")) (.seq (.own "bracketing" (.list (.cons (.tup (.cons (.var "p") (.cons (.int 0) .nil))) .nil))) (.seq w2L qMq)))))))
theorem qDk:jS=(.seq (.ite (.cmp .GtE (.attr (.var "self") "study_level") (.int 2)) (.seq .ret0 .nil) .nil) (.seq (.expr (.meth (.var "self") "_study1" .nil)) (.seq (.setA (.var "self") "study_level" (.int 2)) (.seq (.asg2 "code" "goodlines" (.tup (.cons (.attr (.var "self") "code") (.cons (.attr (.var "self") "goodlines") .nil)))) (.seq (.asg "i" (.bin .Sub (.call (.glob "len") (.cons (.var "goodlines") .nil)) (.int 1))) (.seq (.asg "p" (.call (.glob "len") (.cons (.var "code") .nil))) (.seq w1L qUk))))))):=rfl
section
variable {pp:Params} {n k d j:Nat} {H:Hp} {σ:St} {Q:Fl→St→Prop} {x:PySem.Str}
theorem bT:Bx (G09 pp) (T pp n):=qCl n
theorem qCk:∀ n,(T pp n).calm=false
 | 0=>rfl
 | 1=>rfl
 | _+2=>rfl
theorem qGb {i:String} {args:List V}:∀ n,(T pp n).app (.top (.type i)) args H=tapp i args H
 | 0=>rfl
 | 1=>rfl
 | _+2=>rfl
theorem wZ {args:List V}:tapp "range" args H=uJ args H:=by
 unfold tapp
 rw [if_pos rfl]
theorem qUs {a:Int}:uJ [.int a] H=if Builtin.Range.small 0 a 1=true then okH (.rng 0 a 1) H else .bad:=rfl
theorem zId {a b:Int}:uJ [.int a,.int b] H=if Builtin.Range.small a b 1=true then okH (.rng a b 1) H else .bad:=rfl
theorem qJk {v:V}:tapp "tuple" [v] H=qTa v H:=by
 unfold tapp
 rw [if_neg (by decide),if_pos rfl]; rfl
theorem wB {cx:Sx} (B:Bx (G09 pp) cx) {o m:PySem.Str} {i:String} (hm:zI m=some i):cx.get (.str o) m H=some (.top (.builtin i),[.str o]):=by
 rw [B.get]
 have e:qHy (G09 pp) (.str o) m H=(zI m).map fun i=>(V.top (.builtin i),[V.str o]):=rfl
 rw [e,hm]; rfl
theorem qNa:zI "rfind" = some "str.rfind" := by unfold zI; rw [if_neg (by decide),if_pos rfl]
theorem zKc:zI "find" = some "str.find" := by unfold zI; rw [if_pos rfl]
theorem qCo {c:Bool} {a b d e:V}:bapp c "str.rfind" [a,b,d,e] H=vM jC a b d e H:=by
 unfold bapp
 rw [if_neg (by decide),if_neg (by decide),if_neg (by decide),if_neg (by decide),if_pos rfl]; rfl
theorem qLu {c:Bool} {a b d e:V}:bapp c "str.find" [a,b,d,e] H=vM jP a b d e H:=by
 unfold bapp
 rw [if_neg (by decide),if_neg (by decide),if_neg (by decide),if_pos rfl]
 exact if_pos rfl
theorem qYq {c:Bool} {a:V}:bapp c "re.Match.end" [a] H=qXl a H:=by
 unfold bapp
 rw [if_neg (by decide),if_neg (by decide),if_neg (by decide),if_neg (by decide),if_neg (by decide),if_pos rfl]; rfl
theorem qZg {e:X} {i:Int} (hc:σ.loc.lookup ("code" : PySem.Str)=some (.str x)) (he:ev (T pp n).toCx e σ=.ok (.int i) σ):ev (T pp n).toCx (.meth (.var "code") "rfind" (.cons (.str "\n") (.cons (.int 0) (.cons e .nil)))) σ=.ok (.int (qUq x i)) σ :=
 zD (σ':=⟨σ.toHp,[],[],none⟩) (qB hc) (wB bT qNa) (qD rfl (qD rfl (qD he rfl))) (by
  rw [bT.bl]
  show bapp _ "str.rfind" [.str x,.str "\n", .int 0,.int i] _=_
  rw [qCo]; rfl)
theorem uR {R:zGj} {is:List Int} {r:Option (Nat×Nat)} (h:(if wP is=true then R x (min (qZ is).toNat x.cps.size) (min (zC is).toNat x.cps.size) else none)=some r):wC R x is H=okH (mtV r) H:=by
 unfold wC
 split at h
 ·rename_i hr
  rw [if_pos hr,h]; rfl
 ·cases h
theorem zLl {nm:PySem.Str} {b:Addr} {code:Array Nat} {e:X} {i:Int} {r:Option (Nat×Nat)} (hg:zEs nm=some (.top (.ref b))) (hx:jT b=some code) (hc:σ.loc.lookup ("code" : PySem.Str)=some (.str x)) (he:ev (T pp n).toCx e σ=.ok (.int i) σ) (hr:qKq code x [i]=some r) :
  ev (T pp n).toCx (.call (.glob nm) (.cons (.var "code") (.cons e .nil))) σ=.ok (mtV r) σ :=
 zN (σ':=⟨σ.toHp,[],[],none⟩) (qP (by rw [bT.gl]; exact hg)) (qD (qB hc) (qD he rfl)) (by
  rw [qYv hx]
  show wC (fun x=>jG code x.cps) x [i] σ.toHp=_
  rw [uR (R:=fun x=>jG code x.cps) hr]; rfl)
theorem zGk {nm:PySem.Str} {b:Addr} {code:Array Nat} {e f:X} {i l:Int} {r:Option (Nat×Nat)} (hg:zEs nm=some (.top (.ref b))) (hx:jT b=some code) (hc:σ.loc.lookup ("code" : PySem.Str)=some (.str x)) (he:ev (T pp n).toCx e σ=.ok (.int i) σ) (hf:ev (T pp n).toCx f σ=.ok (.int l) σ) (hr:qKq code x [i,l]=some r) :
  ev (T pp n).toCx (.call (.glob nm) (.cons (.var "code") (.cons e (.cons f .nil)))) σ=.ok (mtV r) σ :=
 zN (σ':=⟨σ.toHp,[],[],none⟩) (qP (by rw [bT.gl]; exact hg)) (qD (qB hc) (qD he (qD hf rfl))) (by
  rw [qYv hx]
  show wC (fun x=>jG code x.cps) x [i,l] σ.toHp=_
  rw [uR (R:=fun x=>jG code x.cps) hr]; rfl)
theorem qJf {r:Option (Nat×Nat)}:zT H (mtV r)=some r.isSome:=by cases r <;> rfl
theorem zGn {z:X} {p e:Nat} (hz:ev (T pp n).toCx z σ=.ok (.mt p e) σ):ev (T pp n).toCx (.meth z "end" .nil) σ=.ok (.int (e:Nat)) σ :=
 zD (σ':=⟨σ.toHp,[],[],none⟩) (vf:=.top (.builtin "re.Match.end")) (first:=[.mt p e]) (xs:=[]) hz (by rw [bT.get]; rfl) rfl (by
  rw [bT.bl]
  show bapp _ "re.Match.end" [.mt p e] _=_
  rw [qYq]; rfl)
theorem qEk {z:PySem.Str} {i:Int} {e:X} {c:PySem.Str} (hc:σ.loc.lookup ("code" : PySem.Str)=some (.str x)) (he:ev (T pp n).toCx e σ=.ok (.int i) σ) (hs:xU x i=some c):ev (T pp n).toCx (.idx (.var "code") e) σ=.ok (.str c) σ:=by
 refine xZ (qB hc) he ?_
 unfold xU at hs
 split at hs
 ·rename_i hf
  obtain ⟨a,h1,rfl⟩:=Option.map_eq_some_iff.mp hs
  have:jK σ.toHp (.str x) (.int i)=((seqIndex? i x.length).bind (x.cps[·]?)).elim .bad fun c=>.ok (.str ⟨#[c]⟩):=if_pos hf
  rw [this,h1]; rfl
 ·cases hs
theorem qOf {a b:X} {y z:PySem.Str} (ha:ev (T pp n).toCx a σ=.ok (.str y) σ) (hb:ev (T pp n).toCx b σ=.ok (.str z) σ):ev (T pp n).toCx (.cmp .In a b) σ=.ok (.bool (Txt.contains z y)) σ:=kN ha hb rfl
theorem qVm {gl:List Nat} {i a:Nat} (hj:H.obj j=some (.list (qI gl))) (hi:i≤1000) (h:gl[i]? = some a):jK H (.ref j) (.int (i:Nat))=.ok (.int (a:Nat)):=by
 refine wA (xs:=qI gl) (j:=i) rfl ?_ (jL (by lia) (by lia)) (yP ?_) ?_
 ·show (match H.obj j with | some (.list xs)=>some xs | _=>none)=_
  rw [hj]
 ·unfold qI; rw [List.length_map]; exact (List.getElem?_eq_some_iff.mp h).1
 ·unfold qI; rw [List.getElem?_map,h]; rfl
structure A1 (x:PySem.Str) (k j:Nat) (H:Hp) (i:Nat) (p:Int) (σ:St):Prop where
 self:σ.loc.lookup ("self" : PySem.Str)=some (.ref k)
 code:σ.loc.lookup ("code" : PySem.Str)=some (.str x)
 good:σ.loc.lookup ("goodlines" : PySem.Str)=some (.ref j)
 i:σ.loc.lookup ("i" : PySem.Str)=some (.int (i:Nat))
 p:σ.loc.lookup ("p" : PySem.Str)=some (.int p)
 hp:σ.toHp=H
theorem A1.setp {i:Nat} {p p':Int} (h:A1 x k j H i p σ):A1 x k j H i p' (σ.set "p" (.int p')):=⟨qA (by decide) h.self,qA (by decide) h.code,qA (by decide) h.good,qA (by decide) h.i,qE,h.hp⟩
theorem A1.seti {i i':Nat} {p v:Int} (h:A1 x k j H i p σ) (e:v=(i':Nat)):A1 x k j H i' p (σ.set "i" (.int v)):=by
 subst e; exact ⟨qA (by decide) h.self,qA (by decide) h.code,qA (by decide) h.good,qE,qA (by decide) h.p,h.hp⟩
theorem A1.oth {i:Nat} {p:Int} {v:V} (h:A1 x k j H i p σ):A1 x k j H i p (σ.set "nothing" v):=⟨qA (by decide) h.self,qA (by decide) h.code,qA (by decide) h.good,qA (by decide) h.i,qA (by decide) h.p,h.hp⟩
theorem A1.setq {i:Nat} {p:Int} {v:V} (h:A1 x k j H i p σ):A1 x k j H i p (σ.set "q" v):=⟨qA (by decide) h.self,qA (by decide) h.code,qA (by decide) h.good,qA (by decide) h.i,qA (by decide) h.p,h.hp⟩
theorem qYr {i:Nat} {p q:Int} {a b:Nat} {it:X} (h:A1 x k j H i p σ) (hq:σ.loc.lookup ("q" : PySem.Str)=some (.int q)) (he:ev (T pp n).toCx it σ=.ok (.rng (a:Nat) (b:Nat) 1) σ) :
  Gd (ex (.each "nothing" it rfB) (T pp n) σ) fun f σ'=>f=.next∧A1 x k j H i (back x (Builtin.Range.rangeSize (a:Nat) (b:Nat) 1).toNat p) σ'∧σ'.loc.lookup ("q" : PySem.Str)=some (.int q):=by
 generalize hm:(Builtin.Range.rangeSize (a:Nat) (b:Nat) 1).toNat=m
 refine qFn (qCk n) he (xs:=(List.range m).map fun (i:Nat)=>V.int ((a:Nat)+(i:Int) * 1)) (by rw [← hm]; rfl) (fun l σ=>∃ p',A1 x k j H i p' σ∧back x l.length p'=back x m p∧σ.loc.lookup ("q" : PySem.Str)=some (.int q)) ⟨p,h,by rw [List.length_map,List.length_range],hq⟩ (fun l σ _=>by rw [← hm]; rfl) ?_ ?_
 ·rintro y r σ ⟨p',h',e,hq'⟩
  unfold rfB
  have h2:=h'.oth (v:=y)
  replace hq':=@qA σ "nothing" "q" y _ (by decide) hq'
  generalize σ.set "nothing" y=σ at h2 hq' ⊢
  refine gd_sasg (zG (qZg h2.code (jM (qB h2.p) rfl)) rfl) (qG ⟨_,h2.setp,e,qA (by decide) hq'⟩)
 ·rintro σ ⟨p',h',e,hq'⟩
  have e':p'=back x m p:=e
  subst e'
  exact ⟨rfl,h',hq'⟩
theorem qTn {gl:List Nat} (hj:H.obj j=some (.list (qI gl))) (hgl:gl.length≤1000) {i:Nat} {p q:Int} {r:Nat×Int×Int} (hi:i < gl.length) (h:A1 x k j H i p σ) (hs:qGw x gl 1000 i p q=some r) :
  Gd (ex w1L (T pp n) σ) fun f σ'=>f=.next∧A1 x k j H r.1 r.2.1 σ'∧(r.1≠0→σ'.loc.lookup ("q" : PySem.Str)=some (.int r.2.2)):=by
 refine wR (fun fuel σ=>∃ i p q,i < gl.length∧A1 x k j H i p σ∧qGw x gl fuel i p q=some r) ⟨i,p,q,hi,h,hs⟩ ?_
 rintro fuel σ ⟨i,p,q,hi,h,hs⟩
 cases fuel with
 | zero=>cases hs
 | succ fuel =>
 refine ⟨fuel,rfl,?_⟩
 cases i with
 | zero =>
  have e:some (0,p,q)=some r:=hs
  cases e
  exact ⟨_,σ,false,qB h.i,rfl,(fun q=>by cases q),fun _=>qG ⟨rfl,h,fun q=>absurd rfl q⟩⟩
 | succ i =>
  refine ⟨_,σ,true,qB h.i,?_,fun _=>?_,(fun q=>by cases q)⟩
  ·show some ((((i+1:Nat):Int)) != 0)=_
   congr 1
  have hs':(if p=0 then none else (gl[i]?).bind fun a=>(gl[i+1]?).bind fun b=>if Builtin.Range.small (a:Nat) (b:Nat) 1=true then
   (qKq qNg x [back x (Builtin.Range.rangeSize (a:Nat) (b:Nat) 1).toNat p]).bind fun r=>match r with
    | some _=>qGw x gl fuel i (back x (Builtin.Range.rangeSize (a:Nat) (b:Nat) 1).toNat p) p
    | none=>some (i+1,back x (Builtin.Range.rangeSize (a:Nat) (b:Nat) 1).toNat p,p)
   else none)=some r:=hs
  by_cases hp:p=0
  ·rw [if_pos hp] at hs'; cases hs'
  rw [if_neg hp] at hs'
  obtain ⟨a,ha,hs'⟩:=Option.bind_eq_some_iff.mp hs'
  obtain ⟨b,hb,hs'⟩:=Option.bind_eq_some_iff.mp hs'
  by_cases hsm:Builtin.Range.small (a:Nat) (b:Nat) 1=true
  ·rw [if_pos hsm] at hs'
   obtain ⟨r',hr',hs'⟩:=Option.bind_eq_some_iff.mp hs'
   unfold w1B
   refine qF (qDz (qB h.p) (by show some (p != 0)=some true; rw [bne_iff_ne.mpr hp]) ?_)
   refine gd_sasg (qB h.p) ?_
   have hq:=@qE σ "q" (.int p)
   replace h:=h.setq (v:=.int p)
   generalize σ.set "q" (.int p)=σ at h hq ⊢
   have hrange:ev (T pp n).toCx (.call (.glob "range") (.cons (.idx (.var "goodlines") (.bin .Sub (.var "i") (.int 1))) (.cons (.idx (.var "goodlines") (.var "i")) .nil))) σ=.ok (.rng (a:Nat) (b:Nat) 1) σ:=by
    have e1:((i+1:Nat):Int) - 1=(i:Nat):=by lia
    refine zN (σ':=⟨σ.toHp,[],[],none⟩) (qP (v:=.top (.type "range")) (by rw [bT.gl]; rfl)) (qD (xZ (qB h.good) (jM (qB h.i) rfl) (by rw [e1,h.hp]; exact qVm hj (by lia) ha)) (qD (xZ (qB h.good) (qB h.i) (by rw [h.hp]; exact qVm hj (by lia) hb)) rfl)) ?_
    rw [qGb,wZ,zId,if_pos hsm]; rfl
   refine zX ((qYr h hq hrange).mono ?_)
   rintro f σ' ⟨rfl,h',hq'⟩
   show Gd (ex _ (T pp n) σ') _
   generalize back x (Builtin.Range.rangeSize (a:Nat) (b:Nat) 1).toNat p=p' at h' hr' hs' ⊢
   refine zX (vP (zLl (b:=64) (code:=qNg) (by rfl) (by rfl) h'.code (qB h'.p) hr') qJf (fun e=>?_) fun e=>?_)
   ·cases r' with
    | none=>cases e
    | some m =>
     exact gd_sasg (jM (qB h'.i) rfl) (qG (qG ⟨i,p',p,by lia,h'.seti (by lia),hs'⟩))
   ·cases r' with
    | some m=>cases e
    | none =>
     cases hs'
     exact qF (gd_brk ⟨rfl,h',fun _=>hq'⟩)
  ·rw [if_neg hsm] at hs'; cases hs'
end
section
variable {pp:Params} {n k d j js jb:Nat} {H:Hp} {σ:St} {Q:Fl→St→Prop} {x:PySem.Str} {q:Int} {s:S2}
theorem qIs {c:Bool} {a b:V}:bapp c "list.append" [a,b] H=zY a b H:=by
 unfold bapp
 rw [if_neg (by decide),if_pos rfl]; rfl
theorem uT {b:Bool} {xs:List V} (h:H.obj j=some (.list xs)):bapp b "len" [.ref j] H=okH (.int (xs.length:Nat)) H:=by
 rw [uE]
 show (qM H (.ref j)).elim Rs.bad _=_
 have:qM H (.ref j)=some xs:=by
  show (match H.obj j with | some (.list xs)=>some xs | _=>none)=_
  rw [h]
 rw [this]; rfl
theorem qWs {cx:Sx} (B:Bx (G09 pp) cx) {m:PySem.Str} {i:String} {xs:List V} (h:H.obj j=some (.list xs)) (hm:kX m=some i):cx.get (.ref j) m H=some (.top (.builtin i),[.ref j]):=by
 rw [B.get]
 unfold qHy
 dsimp only
 rw [qDx h]
 dsimp only
 rw [h]
 dsimp only
 rw [hm]; rfl
theorem qHm:kX "append" = some "list.append" := by unfold kX; rw [if_pos rfl]
noncomputable def qT (l:List Int):List V:=l.map .int
noncomputable def kL (l:List (Int×Int)):List V:=l.map fun p=>.tup [.int p.1,.int p.2]
noncomputable def xQ (H:Hp) (js jb:Nat) (st:List Int) (br:List (Int×Int)):Hp:=hput (hput H js (.list (qT st))) jb (.list (kL br))
theorem qAu {st:List Int} {br:List (Int×Int)} (h:js≠jb):(xQ H js jb st br).obj js=some (.list (qT st)):=(zK h).trans vF
theorem qNk {st:List Int} {br:List (Int×Int)}:(xQ H js jb st br).obj jb=some (.list (kL br)):=vF
theorem qBy {st st':List Int} {br:List (Int×Int)} (h:js≠jb):hput (xQ H js jb st br) js (.list (qT st'))=xQ H js jb st' br:=by
 unfold xQ hput
 refine congrArg (fun o=>Hp.mk o H.nxt) (funext fun i=>?_)
 show (if i=js then some (O.list (qT st')) else if i=jb then some (O.list (kL br)) else if i=js then some (O.list (qT st)) else H.obj i)=if i=jb then some (O.list (kL br)) else if i=js then some (O.list (qT st')) else H.obj i
 by_cases h1:i=js
 ·subst h1; rw [if_pos rfl,if_neg h,if_pos rfl]
 ·rw [if_neg h1,if_neg h1,if_neg h1]
theorem qLc {st:List Int} {br br':List (Int×Int)}:hput (xQ H js jb st br) jb (.list (kL br'))=xQ H js jb st br':=qHx
structure A2 (x:PySem.Str) (k js jb:Nat) (H:Hp) (q:Int) (s:S2) (σ:St):Prop where
 self:σ.loc.lookup ("self" : PySem.Str)=some (.ref k)
 code:σ.loc.lookup ("code" : PySem.Str)=some (.str x)
 p:σ.loc.lookup ("p" : PySem.Str)=some (.int s.p)
 q:σ.loc.lookup ("q" : PySem.Str)=some (.int q)
 last:σ.loc.lookup ("lastch" : PySem.Str)=some (.str s.last)
 stack:σ.loc.lookup ("stack" : PySem.Str)=some (.ref js)
 push:σ.loc.lookup ("push_stack" : PySem.Str)=some (.bnd js)
 brk:σ.loc.lookup ("bracketing" : PySem.Str)=some (.ref jb)
 hp:σ.toHp=xQ H js jb s.stack s.brk
noncomputable def zJx:List PySem.Str:=["self", "code", "p", "q", "lastch", "stack", "push_stack", "bracketing"]
noncomputable def qVn:List PySem.Str:=["m", "newp", "i", "ch"]
theorem zGd:∀ y∈qVn,∀ z∈zJx,(z == y)=false:=by decide +kernel
theorem A2.oth (h:A2 x k js jb H q s σ) {y:PySem.Str} (hy:y∈qVn) {v:V}:A2 x k js jb H q s (σ.set y v):=by
 have a:=zGd y hy
 exact ⟨qA (a _ (by decide)) h.self,qA (a _ (by decide)) h.code,qA (a _ (by decide)) h.p,qA (a _ (by decide)) h.q,qA (a _ (by decide)) h.last,qA (a _ (by decide)) h.stack,qA (a _ (by decide)) h.push,qA (a _ (by decide)) h.brk,h.hp⟩
theorem A2.setp (h:A2 x k js jb H q s σ) {v:Int}:A2 x k js jb H q { s with p:=v } (σ.set "p" (.int v)) :=
 ⟨qA (by decide) h.self,qA (by decide) h.code,qE,qA (by decide) h.q,qA (by decide) h.last,qA (by decide) h.stack,qA (by decide) h.push,qA (by decide) h.brk,h.hp⟩
theorem A2.setl (h:A2 x k js jb H q s σ) {v:PySem.Str}:A2 x k js jb H q { s with last:=v } (σ.set "lastch" (.str v)) :=
 ⟨qA (by decide) h.self,qA (by decide) h.code,qA (by decide) h.p,qA (by decide) h.q,qE,qA (by decide) h.stack,qA (by decide) h.push,qA (by decide) h.brk,h.hp⟩
theorem A2.sets (h:A2 x k js jb H q s σ) {st:List Int}:A2 x k js jb H q { s with stack:=st } { σ with toHp:=xQ H js jb st s.brk }:=⟨h.self,h.code,h.p,h.q,h.last,h.stack,h.push,h.brk,rfl⟩
theorem A2.setb (h:A2 x k js jb H q s σ) {br:List (Int×Int)}:A2 x k js jb H q { s with brk:=br } { σ with toHp:=xQ H js jb s.stack br }:=⟨h.self,h.code,h.p,h.q,h.last,h.stack,h.push,h.brk,rfl⟩
theorem qIv {xs:List V} {v:V} (h:H.obj j=some (.list xs)) (hl:xs.length≤2000):zY (.ref j) v H=okH .none (hput H j (.list (xs++[v]))):=by
 show (match H.obj j with | some (.list xs)=>_ | _=>_)=_
 rw [h]
 have hz:sizeLine=16777216:=by decide
 exact if_pos (by lia)
theorem wJ (hne:js≠jb) (h:A2 x k js jb H q s σ):ev (T pp n).toCx (.call (.glob "len") (.cons (.var "stack") .nil)) σ=.ok (.int (ln s.stack)) σ :=
 zN (σ':=⟨σ.toHp,[],[],none⟩) (qP (qFk bT)) (qD (qB h.stack) rfl) (by
  rw [bT.bl,uT (by rw [h.hp]; exact qAu hne)]
  unfold qT; rw [List.length_map]; rfl)
theorem gd_brk {a b:X} {v w:Int} {r:S} (h:A2 x k js jb H q s σ) (hl:s.brk.length≤1001) (ha:ev (T pp n).toCx a σ=.ok (.int v) σ) (hb:ev (T pp n).toCx b σ=.ok (.int w) σ) (hk:A2 x k js jb H q { s with brk:=s.brk++[(v,w)] } { σ with toHp:=xQ H js jb s.stack (s.brk++[(v,w)]) }→Gd (ex r (T pp n) { σ with toHp:=xQ H js jb s.stack (s.brk++[(v,w)]) }) Q) :
  Gd (ex (.seq (.expr (.meth (.var "bracketing") "append" (.cons (.tup (.cons a (.cons b .nil))) .nil))) r) (T pp n) σ) Q:=by
 have ho:σ.toHp.obj jb=some (.list (kL s.brk)):=by rw [h.hp]; exact qNk
 have hap:(T pp n).app (.top (.builtin "list.append")) ([.ref jb]++[.tup [.int v,.int w]]) σ.toHp=okH .none (xQ H js jb s.stack (s.brk++[(v,w)])):=by
  rw [bT.bl]
  show bapp _ "list.append" [.ref jb,.tup [.int v,.int w]] _=_
  rw [qIs,qIv ho (by unfold kL; rw [List.length_map]; lia),h.hp]
  have e:kL s.brk++[.tup [.int v,.int w]]=kL (s.brk++[(v,w)]):=by unfold kL; rw [List.map_append]; rfl
  rw [e,qLc]
 exact zQ (zD (qB h.brk) (qWs bT ho qHm) (qD (qDf (qD ha (qD hb rfl)) (by show 2≤sizeLine; decide)) rfl) hap) (hk h.setb)
theorem zEu {r:S} (hne:js≠jb) (h:A2 x k js jb H q s σ) (hl:s.stack.length≤1000) (hk:A2 x k js jb H q { s with stack:=s.stack++[s.p] } { σ with toHp:=xQ H js jb (s.stack++[s.p]) s.brk }→Gd (ex r (T pp n) { σ with toHp:=xQ H js jb (s.stack++[s.p]) s.brk }) Q) :
  Gd (ex (.seq (.expr (.call (.var "push_stack") (.cons (.var "p") .nil))) r) (T pp n) σ) Q:=by
 have ho:σ.toHp.obj js=some (.list (qT s.stack)):=by rw [h.hp]; exact qAu hne
 have hap:(T pp n).app (.bnd js) [.int s.p] σ.toHp=okH .none (xQ H js jb (s.stack++[s.p]) s.brk):=by
  rw [bT.bd,qIv ho (by unfold qT; rw [List.length_map]; lia),h.hp]
  have e:qT s.stack++[.int s.p]=qT (s.stack++[s.p]):=by unfold qT; rw [List.map_append]; rfl
  rw [e,qBy hne]
 exact zQ (zN (qB h.push) (qD (qB h.p) rfl) hap) (hk h.sets)
theorem qTb {i i':Int} (h:A2 x k js jb H q s σ) (hi:σ.loc.lookup ("i" : PySem.Str)=some (.int i)) (ht:qGl x s.p 1000 i=some i') {w:V} (hw:σ.loc.lookup ("newp" : PySem.Str)=some w) :
  Gd (ex zGo (T pp n) σ) fun f σ'=>f=.next∧A2 x k js jb H q s σ'∧σ'.loc.lookup ("i" : PySem.Str)=some (.int i')∧σ'.loc.lookup ("newp" : PySem.Str)=some w:=by
 refine wR (fun fuel σ=>∃ i,A2 x k js jb H q s σ∧σ.loc.lookup ("i" : PySem.Str)=some (.int i)∧qGl x s.p fuel i=some i'∧σ.loc.lookup ("newp" : PySem.Str)=some w) ⟨i,h,hi,ht,hw⟩ ?_
 rintro fuel σ ⟨i,h,hi,ht,hw⟩
 cases fuel with
 | zero=>cases ht
 | succ fuel =>
 refine ⟨fuel,rfl,?_⟩
 have ht':(if i ≥ s.p then (xU x i).bind fun c=>if Txt.contains " \t\n" c=true then qGl x s.p fuel (i - 1) else some i else some i)=some i':=ht
 by_cases hge:i ≥ s.p
 ·rw [if_pos hge] at ht'
  obtain ⟨c,hc,ht'⟩:=Option.bind_eq_some_iff.mp ht'
  refine ⟨_,σ,Txt.contains " \t\n" c,qGg (p:=decide (i ≥ s.p)) (jQ (qB hi) (qB h.p)) fun _=>qOf (qEk (z:="") h.code (qB hi) hc) rfl,?_,fun e=>?_,fun e=>?_⟩
  ·rw [decide_eq_true hge]; rfl
  ·rw [if_pos e] at ht'
   unfold zGp
   exact gd_sasg (jM (qB hi) rfl) (qG ⟨i - 1,h.oth (by decide),qE,ht',qA (by decide) hw⟩)
  ·rw [if_neg (by rw [e]; decide)] at ht'
   cases ht'
   exact qG ⟨rfl,h,hi,hw⟩
 ·rw [if_neg hge] at ht'
  cases ht'
  refine ⟨_,σ,false,qGg (p:=decide (i' ≥ s.p)) (q:=true) (jQ (qB hi) (qB h.p)) (fun e=>absurd (of_decide_eq_true e) hge),?_,(fun e=>by cases e),fun _=>qG ⟨rfl,h,hi,hw⟩⟩
  rw [decide_eq_false hge]; rfl
end
section
variable {pp:Params} {n k d j js jb:Nat} {H:Hp} {σ:St} {Q:Fl→St→Prop} {x:PySem.Str} {q:Int} {s:S2}
theorem zGq {a b:PySem.Str}:(a.cps.toList == b.cps.toList)=decide (a=b):=by
 by_cases h:a=b
 ·subst h; rw [decide_eq_true rfl,beq_self_eq_true]
 ·rw [decide_eq_false h]
  refine beq_eq_false_iff_ne.mpr fun e=>h ?_
  cases a; cases b
  exact congrArg PySem.Str.mk (Array.toList_inj.mp e)
theorem qDg {a b:X} {y z:PySem.Str} {cx:Cx} (ha:ev cx a σ=.ok (.str y) σ) (hb:ev cx b σ=.ok (.str z) σ):ev cx (.cmp .Eq a b) σ=.ok (.bool (decide (y=z))) σ:=by
 rw [yK ha hb,zGq]
theorem zGm {a b:X} {y z:PySem.Str} {cx:Cx} (ha:ev cx a σ=.ok (.str y) σ) (hb:ev cx b σ=.ok (.str z) σ):ev cx (.cmp .NotEq a b) σ=.ok (.bool (!decide (y=z))) σ:=by
 rw [zLn ha hb,bne,zGq]
theorem qZi {a b:X} {i l:Int} (hc:σ.loc.lookup ("code" : PySem.Str)=some (.str x)) (ha:ev (T pp n).toCx a σ=.ok (.int i) σ) (hb:ev (T pp n).toCx b σ=.ok (.int l) σ):ev (T pp n).toCx (.meth (.var "code") "find" (.cons (.str "\n") (.cons a (.cons b .nil)))) σ=.ok (.int (jP x nlT (xD x.length i) (min (xD x.length l) x.length))) σ :=
 zD (σ':=⟨σ.toHp,[],[],none⟩) (qB hc) (wB bT zKc) (qD rfl (qD ha (qD hb rfl))) (by
  rw [bT.bl]
  show bapp _ "str.find" [.str x,.str "\n", .int i,.int l] _=_
  rw [qLu]; rfl)
noncomputable def AtS (x:PySem.Str) (k js jb:Nat) (H:Hp) (q:Int) (s:S2):Fl→St→Prop:=fun f σ'=>(f=.cont∨f=.next)∧A2 x k js jb H q s σ'
theorem qUy {ch:PySem.Str} {r:S} (hne:js≠jb) (h:A2 x k js jb H q s σ) (h1:s.stack.length≤1000) (h2:s.brk.length≤1000) (hc:σ.loc.lookup ("ch" : PySem.Str)=some (.str ch)) :
  Gd (ex (.seq (.expr (.call (.var "push_stack") (.cons (.var "p") .nil))) (.seq (.expr (.meth (.var "bracketing") "append" (.cons (.tup (.cons (.var "p") (.cons (.call (.glob "len") (.cons (.var "stack") .nil)) .nil))) .nil))) (.seq (.asg "lastch" (.var "ch")) (.seq (.asg "p" (.bin .Add (.var "p") (.int 1))) (.seq .cont .nil))))) (T pp n) σ) (qAp r (T pp n) (AtS x k js jb H q { p:=s.p+1,stack:=s.stack++[s.p],brk:=s.brk++[(s.p,ln (s.stack++[s.p]))],last:=ch })):=by
 refine zEu hne h h1 fun h=>?_
 refine gd_brk h (Nat.le_succ_of_le h2) (qB h.p) (wJ hne h) fun h=>?_
 refine gd_sasg (qB hc) ?_
 have h':=h.setl (v:=ch)
 exact gd_sasg (zG (qB h'.p) rfl) (qF (yX ⟨.inl rfl,h'.setp⟩))
theorem zBi {r:S} (hne:js≠jb) (h:A2 x k js jb H q s σ) {hc:Prop} (hk:∀ σ',A2 x k js jb H q { s with stack:=s.stack.dropLast } σ'→σ'.loc=σ.loc→Gd (ex r (T pp n) σ') Q):Gd (ex (.seq (.ite (.var "stack") (.seq (.delL "stack") .nil) .nil) r) (T pp n) σ) Q:=by
 have ho:σ.toHp.obj js=some (.list (qT s.stack)):=by rw [h.hp]; exact qAu hne
 have ht:zT σ.toHp (.ref js)=some !(qT s.stack).isEmpty:=by
  show (qM σ.toHp (.ref js)).map _=_
  have:qM σ.toHp (.ref js)=some (qT s.stack):=by
   show (match σ.toHp.obj js with | some (.list xs)=>some xs | _=>none)=_
   rw [ho]
  rw [this]; rfl
 refine zX (vP (qB h.stack) ht (fun e=>?_) fun e=>?_)
 ·cases hs:s.stack with
  | nil=>rw [hs] at e; cases e
  | cons a l =>
   rw [hs] at ho
   refine qF (zEx (y:=.int a) (ys:=qT l) h.stack ho (qG (hk _ ?_ rfl)))
   have e2:({ σ with obj:=fun j=>if j=js then some (.list (V.int a::qT l).dropLast) else σ.obj j }:St)={ σ with toHp:=xQ H js jb s.stack.dropLast s.brk }:=by
    have e3:hput σ.toHp js (.list (V.int a::qT l).dropLast)=xQ H js jb s.stack.dropLast s.brk:=by
     rw [h.hp,hs]
     have e4:(V.int a::qT l).dropLast=qT (a::l).dropLast:=by
      show (qT (a::l)).dropLast=_
      unfold qT; rw [List.map_dropLast]
     rw [e4,qBy hne]
    rw [← e3]; rfl
   rw [e2]
   exact h.sets
 ·have hs:s.stack=[]:=by
   cases hs:s.stack with
   | nil=>rfl
   | cons a l=>rw [hs] at e; cases e
  refine qG (hk _ ?_ rfl)
  have:s.stack.dropLast=s.stack:=by rw [hs]; rfl
  rw [this]; exact h
theorem qRy {ch:PySem.Str} {r:S} (hne:js≠jb) (h:A2 x k js jb H q s σ) (h2:s.brk.length≤1000) (hc:σ.loc.lookup ("ch" : PySem.Str)=some (.str ch)) :
  Gd (ex (.seq (.ite (.var "stack") (.seq (.delL "stack") .nil) .nil) (.seq (.asg "lastch" (.var "ch")) (.seq (.asg "p" (.bin .Add (.var "p") (.int 1))) (.seq (.expr (.meth (.var "bracketing") "append" (.cons (.tup (.cons (.var "p") (.cons (.call (.glob "len") (.cons (.var "stack") .nil)) .nil))) .nil))) (.seq .cont .nil))))) (T pp n) σ) (qAp r (T pp n) (AtS x k js jb H q { p:=s.p+1,stack:=s.stack.dropLast,brk:=s.brk++[(s.p+1,ln s.stack.dropLast)],last:=ch })):=by
 refine zBi (hc:=True) hne h fun σ' h e=>?_
 refine gd_sasg (qB (by rw [e]; exact hc)) ?_
 replace h:=h.setl (v:=ch)
 refine gd_sasg (zG (qB h.p) rfl) ?_
 replace h:=h.setp (v:=s.p+1)
 exact gd_brk h (Nat.le_succ_of_le h2) (qB h.p) (wJ hne h) fun h=>qF (yX ⟨.inl rfl,h⟩)
theorem qQd {ch:PySem.Str} {r:S} {m:Nat×Nat} (hne:js≠jb) (h:A2 x k js jb H q s σ) (h2:s.brk.length≤1000) (hc:σ.loc.lookup ("ch" : PySem.Str)=some (.str ch)) (hr:qKq qAq x [s.p,q]=some (some m)) :
  Gd (ex (.seq (.expr (.meth (.var "bracketing") "append" (.cons (.tup (.cons (.var "p") (.cons (.bin .Add (.call (.glob "len") (.cons (.var "stack") .nil)) (.int 1)) .nil))) .nil))) (.seq (.asg "lastch" (.var "ch")) (.seq (.asg "p" (.meth (.call (.glob "_match_stringre") (.cons (.var "code") (.cons (.var "p") (.cons (.var "q") .nil)))) "end" .nil)) (.seq (.expr (.meth (.var "bracketing") "append" (.cons (.tup (.cons (.var "p") (.cons (.call (.glob "len") (.cons (.var "stack") .nil)) .nil))) .nil))) (.seq .cont .nil))))) (T pp n) σ) (qAp r (T pp n) (AtS x k js jb H q { p:=(m.2:Nat),stack:=s.stack,brk:=s.brk++[(s.p,ln s.stack+1)]++[(((m.2:Nat):Int),ln s.stack)],last:=ch })):=by
 refine gd_brk h (Nat.le_succ_of_le h2) (qB h.p) (zG (wJ hne h) rfl) fun h=>?_
 refine gd_sasg (qB hc) ?_
 replace h:=h.setl (v:=ch)
 refine gd_sasg (zGn (p:=m.1) (e:=m.2) (zGk (b:=65) (code:=qAq) (by rfl) (by rfl) h.code (qB h.p) (qB h.q) hr)) ?_
 replace h:=h.setp (v:=((m.2:Nat):Int))
 exact gd_brk h (by show (s.brk++[(s.p,ln s.stack+1)]).length≤1001; rw [List.length_append]; exact Nat.succ_le_succ h2) (qB h.p) (wJ hne h) fun h=>qF (yX ⟨.inl rfl,h⟩)
theorem qWl {ch:PySem.Str} {r:S} {v:Int} (hv:jP x nlT (xD x.length s.p) (min (xD x.length q) x.length)+1=v) (hpos:v > 0) (hne:js≠jb) (h:A2 x k js jb H q s σ) (h2:s.brk.length≤1000) :
  Gd (ex (.seq (.expr (.meth (.var "bracketing") "append" (.cons (.tup (.cons (.var "p") (.cons (.bin .Add (.call (.glob "len") (.cons (.var "stack") .nil)) (.int 1)) .nil))) .nil))) (.seq (.asg "p" (.bin .Add (.meth (.var "code") "find" (.cons (.str "\n") (.cons (.var "p") (.cons (.var "q") .nil)))) (.int 1))) (.seq (.assert (.cmp .Gt (.var "p") (.int 0))) (.seq (.expr (.meth (.var "bracketing") "append" (.cons (.tup (.cons (.var "p") (.cons (.call (.glob "len") (.cons (.var "stack") .nil)) .nil))) .nil))) (.seq .cont .nil))))) (T pp n) σ) (qAp r (T pp n) (AtS x k js jb H q { p:=v,stack:=s.stack,brk:=s.brk++[(s.p,ln s.stack+1)]++[(v,ln s.stack)],last:=s.last })):=by
 refine gd_brk h (Nat.le_succ_of_le h2) (qB h.p) (zG (wJ hne h) rfl) fun h=>?_
 refine gd_sasg (zG (qZi h.code (qB h.p) (qB h.q)) rfl) ?_
 rw [hv]
 replace h:=h.setp (v:=v)
 refine qW ?_ ?_
 ·rw [qMe (qB h.p) rfl,decide_eq_true (show v > 0 from hpos)]
 exact gd_brk h (by show (s.brk++[(s.p,ln s.stack+1)]).length≤1001; rw [List.length_append]; exact Nat.succ_le_succ h2) (qB h.p) (wJ hne h) fun h=>qF (yX ⟨.inl rfl,h⟩)
theorem qPo {ch e:PySem.Str} (hlen:ch.length+e.length≤sizeLine) (h:A2 x k js jb H q s σ) (hc:σ.loc.lookup ("ch" : PySem.Str)=some (.str ch)) (hch:ch = "\\") (hlt:s.p+1 < q) (he:xU x (s.p+1)=some e) :
  Gd (ex (.seq (.assert (.cmp .Eq (.var "ch") (.str "\\"))) (.seq (.asg "p" (.bin .Add (.var "p") (.int 1))) (.seq (.assert (.cmp .Lt (.var "p") (.var "q"))) (.seq (.ite (.cmp .NotEq (.idx (.var "code") (.var "p")) (.str "\n")) (.seq (.asg "lastch" (.bin .Add (.var "ch") (.idx (.var "code") (.var "p")))) .nil) .nil) (.seq (.asg "p" (.bin .Add (.var "p") (.int 1))) .nil))))) (T pp n) σ) (AtS x k js jb H q { s with p:=s.p+1+1,last:=if e=nlT then s.last else ch++e }):=by
 refine qW ?_ ?_
 ·rw [qDg (qB hc) rfl,decide_eq_true hch]
 refine gd_sasg (zG (qB h.p) rfl) ?_
 replace h:=h.setp (v:=s.p+1)
 replace hc:=@qA σ "p" "ch" (.int (s.p+1)) _ (by decide) hc
 generalize σ.set "p" (.int (s.p+1))=σ at h hc ⊢
 refine qW ?_ ?_
 ·rw [qGf (qB h.p) (qB h.q),decide_eq_true (show ({ s with p:=s.p+1 }:S2).p < q from hlt)]
 have hs:=qEk (pp:=pp) (n:=n) (z:="") h.code (qB h.p) he
 refine qJ (zGm hs rfl) (fun e'=>?_) (fun e'=>?_)
 ·have hn:¬ e=nlT:=fun q=>by rw [decide_eq_true (show e = "\n" from q)] at e'; cases e'
  rw [if_neg hn]
  refine gd_sasg (yM (qB hc) hs (if_pos hlen)) ?_
  replace h:=h.setl (v:=ch++e)
  exact qG (gd_sasg (zG (qB h.p) rfl) (qG ⟨.inr rfl,h.setp⟩))
 ·have hn:e=nlT:=by
   by_cases q:e=nlT
   ·exact q
   ·rw [decide_eq_false (show ¬ e = "\n" from q)] at e'; cases e'
  rw [if_pos hn]
  exact gd_sasg (zG (qB h.p) rfl) (qG ⟨.inr rfl,h.setp⟩)
theorem qHc {i:Int} {c:PySem.Str} (h:xU x i=some c):c.length=1:=by
 unfold xU at h
 split at h
 ·obtain ⟨a,_,rfl⟩:=Option.map_eq_some_iff.mp h; rfl
 ·cases h
theorem qSy {s':S2} (hne:js≠jb) (h:A2 x k js jb H q s σ) (h1:s.stack.length≤1000) (h2:s.brk.length≤1000) (ht:qMh x q s=some s') :
  Gd (ex qGj (T pp n) σ) (AtS x k js jb H q s'):=by
 obtain ⟨ch,hs,ht⟩:=Option.bind_eq_some_iff.mp ht
 unfold qGj
 refine gd_sasg (qEk (z:="") h.code (qB h.p) hs) ?_
 have hc:=@qE σ "ch" (.str ch)
 replace h:=h.oth (y:="ch") (v:=.str ch) (by decide)
 generalize σ.set "ch" (.str ch)=σ at h hc ⊢
 refine qJ (qOf (qB hc) rfl) (fun e=>?_) (fun e=>?_)
 ·rw [if_pos e] at ht; cases ht
  exact qUy hne h h1 h2 hc
 rw [if_neg (by rw [e]; decide)] at ht
 refine qJ (qOf (qB hc) rfl) (fun e=>?_) (fun e=>?_)
 ·rw [if_pos e] at ht; cases ht
  exact qRy hne h h2 hc
 rw [if_neg (by rw [e]; decide)] at ht
 refine qJ (qJa (p:=decide (ch = "\"")) (q:=decide (ch = "'")) (qDg (qB hc) rfl) fun _=>qDg (qB hc) rfl) (fun e=>?_) (fun e=>?_)
 ·rw [if_pos ((Bool.or_eq_true _ _ ▸ e:_∨_).imp of_decide_eq_true of_decide_eq_true)] at ht
  obtain ⟨r,hr,ht⟩:=Option.bind_eq_some_iff.mp ht
  cases r with
  | none=>cases ht
  | some m =>
   cases ht
   exact qQd hne h h2 hc hr
 rw [if_neg (fun q=>by
  rcases q with q | q
  ·rw [decide_eq_true q] at e; cases e
  ·rw [decide_eq_true q,Bool.or_true] at e; cases e)] at ht
 refine qJ (qDg (qB hc) rfl) (fun e=>?_) (fun e=>?_)
 ·rw [if_pos (of_decide_eq_true e)] at ht
  by_cases hp:jP x nlT (xD x.length s.p) (min (xD x.length q) x.length)+1 > 0
  ·rw [if_pos hp] at ht; cases ht
   exact qWl (ch:=ch) rfl hp hne h h2
  ·rw [if_neg hp] at ht; cases ht
 rw [if_neg (of_decide_eq_false e)] at ht
 by_cases hb:ch = "\\" ∧ s.p+1 < q
 ·rw [if_pos hb] at ht
  obtain ⟨e,he,ht⟩:=Option.bind_eq_some_iff.mp ht
  cases ht
  exact qPo (by rw [qHc hs,qHc he]; decide) h hc hb.1 hb.2 he
 ·rw [if_neg hb] at ht; cases ht
end
section
variable {pp:Params} {n k d j js jb:Nat} {H:Hp} {σ:St} {Q:Fl→St→Prop} {x:PySem.Str} {q:Int} {s:S2}
noncomputable def AtT (x:PySem.Str) (k js jb:Nat) (H:Hp) (q:Int) (r:Bool×S2):Fl→St→Prop:=fun f σ'=>(if r.1=true then f=.brk else f=.cont∨f=.next)∧A2 x k js jb H q r.2 σ'
theorem qYo {r:Bool×S2} (hne:js≠jb) (h:A2 x k js jb H q s σ) (ht:qMi x q s=some r) :
  Gd (ex w2B (T pp n) σ) (AtT x k js jb H q r):=by
 unfold qMi at ht
 by_cases hb:s.stack.length > 1000∨s.brk.length > 1000
 ·rw [if_pos hb] at ht; cases ht
 rw [if_neg hb] at ht
 have h1:s.stack.length≤1000:=Nat.not_lt.mp fun q=>hb (.inl q)
 have h2:s.brk.length≤1000:=Nat.not_lt.mp fun q=>hb (.inr q)
 obtain ⟨m,hm,ht⟩:=Option.bind_eq_some_iff.mp ht
 have plain:∀ σ s,A2 x k js jb H q s σ→s.stack.length≤1000→s.brk.length≤1000→(qMh x q s).map (fun s=>(false,s))=some r→Gd (ex qGj (T pp n) σ) (AtT x k js jb H q r):=by
  intro σ s h h1 h2 ht
  obtain ⟨s',e,rfl⟩:=Option.map_eq_some_iff.mp ht
  exact (qSy hne h h1 h2 e).mono fun f σ' w=>⟨w.1,w.2⟩
 unfold w2B
 refine gd_sasg (zGk (b:=66) (code:=qYg) (by rfl) (by rfl) h.code (qB h.p) (qB h.q) hm) ?_
 have hv:=@qE σ "m" (mtV m)
 replace h:=h.oth (y:="m") (v:=mtV m) (by decide)
 generalize σ.set "m" (mtV m)=σ at h hv ⊢
 refine zX (vP (qB hv) qJf (fun e=>?_) fun e=>?_)
 ·cases m with
  | none=>cases e
  | some m =>
   obtain ⟨i,hi,ht⟩:=Option.bind_eq_some_iff.mp ht
   obtain ⟨l,hl,ht⟩:=Option.bind_eq_some_iff.mp ht
   unfold zGv
   refine gd_sasg (zGn (p:=m.1) (e:=m.2) (qB hv)) ?_
   have hw:=@qE σ "newp" (.int (m.2:Nat))
   replace h:=h.oth (y:="newp") (v:=.int (m.2:Nat)) (by decide)
   generalize σ.set "newp" (.int (m.2:Nat))=σ at h hw ⊢
   refine gd_sasg (jM (qB hw) rfl) ?_
   have hiv:=@qE σ "i" (.int ((m.2:Nat) - 1))
   replace hw:=@qA σ "i" "newp" (.int ((m.2:Nat) - 1)) _ (by decide) hw
   replace h:=h.oth (y:="i") (v:=.int ((m.2:Nat) - 1)) (by decide)
   generalize σ.set "i" (.int ((m.2:Nat) - 1))=σ at h hw hiv ⊢
   refine zX ((qTb h hiv hi hw).mono ?_)
   rintro f σ ⟨rfl,h,hiv,hw⟩
   show Gd (ex _ (T pp n) σ) _
   have last:∀ σ,A2 x k js jb H q { s with last:=l } σ→σ.loc.lookup ("newp" : PySem.Str)=some (.int (m.2:Nat))→Gd (ex (.seq (.asg "p" (.var "newp")) (.seq (.ite (.cmp .GtE (.var "p") (.var "q")) (.seq .brk .nil) .nil) .nil)) (T pp n) σ) (qAp qGj (T pp n) (AtT x k js jb H q r)):=by
    intro σ h hw
    refine gd_sasg (qB hw) ?_
    replace h:=h.setp (v:=((m.2:Nat):Int))
    refine qJ (jQ (qB h.p) (qB h.q)) (fun e=>?_) fun e=>?_
    ·rw [if_pos (of_decide_eq_true e)] at ht
     cases ht
     have w:AtT x k js jb H q (true,{ s with p:=(m.2:Nat),last:=l }) .brk (σ.set "p" (.int (m.2:Nat))):=⟨rfl,h⟩
     exact qF (Mine.Lake.gd_brk w)
    ·rw [if_neg (of_decide_eq_false e)] at ht
     exact qG (plain _ _ h h1 h2 ht)
   refine qJ (jQ (qB hiv) (qB h.p)) (fun e=>?_) fun e=>?_
   ·rw [if_pos (of_decide_eq_true e)] at hl
    exact gd_sasg (qEk (z:="") h.code (qB hiv) hl) (qG (last _ h.setl (qA (by decide) hw)))
   ·rw [if_neg (of_decide_eq_false e)] at hl
    cases hl
    exact last _ h hw
 ·cases m with
  | some m=>cases e
  | none=>exact qG (plain _ _ h h1 h2 ht)
theorem qQr {s':S2} (hne:js≠jb) (h:A2 x k js jb H q s σ) (hl:yS x q 1000 s=some s') :
  Gd (ex w2L (T pp n) σ) fun f σ'=>f=.next∧A2 x k js jb H q s' σ':=by
 refine wR (fun fuel σ=>∃ s,A2 x k js jb H q s σ∧yS x q fuel s=some s') ⟨s,h,hl⟩ ?_
 rintro fuel σ ⟨s,h,hl⟩
 cases fuel with
 | zero=>cases hl
 | succ fuel =>
 refine ⟨fuel,rfl,?_⟩
 have hl':(if s.p < q then (qMi x q s).bind fun r=>if r.1=true then some r.2 else yS x q fuel r.2 else some s)=some s':=hl
 refine ⟨_,σ,decide (s.p < q),qGf (qB h.p) (qB h.q),rfl,fun e=>?_,fun e=>?_⟩
 ·rw [if_pos (of_decide_eq_true e)] at hl'
  obtain ⟨r,hr,hl'⟩:=Option.bind_eq_some_iff.mp hl'
  refine (qYo hne h hr).mono fun f σ' w=>?_
  by_cases hb:r.1=true
  ·rw [if_pos hb] at hl'; cases hl'
   have hf:f=.brk:=by have:=w.1; rwa [if_pos hb] at this
   subst hf
   exact ⟨rfl,w.2⟩
  ·rw [if_neg hb] at hl'
   have hf:f=.cont∨f=.next:=by have:=w.1; rwa [if_neg hb] at this
   rcases hf with rfl | rfl
   ·exact ⟨_,w.2,hl'⟩
   ·exact ⟨_,w.2,hl'⟩
 ·rw [if_neg (of_decide_eq_false e)] at hl'
  cases hl'
  exact qG ⟨rfl,h⟩
end
section
variable {pp:Params} {n k d j js jb:Nat} {H:Hp} {σ:St} {Q:Fl→St→Prop} {x:PySem.Str} {q:Int} {s:S2} {fs:qX} {iw tw:Int} {c g m:Nat}
structure Kept (H H':Hp) (d:Nat):Prop where
 nxt:H.nxt≤H'.nxt
 same:∀ i,i < H.nxt→i≠d→H'.obj i=H.obj i
theorem Kept.refl:Kept H H d:=⟨Nat.le_refl _,fun _ _ _=>rfl⟩
theorem Kept.put {H':Hp} (h:Kept H H' d) {o:O}:Kept H (hput H' d o) d:=⟨h.nxt,fun i hi hd=>(zK hd).trans (h.same i hi hd)⟩
theorem Kept.new {H':Hp} (h:Kept H H' d) {o:O} (hj:H.nxt≤j):Kept H (hput H' j o) d:=⟨h.nxt,fun i hi hd=>(zK (Nat.ne_of_lt (Nat.lt_of_lt_of_le hi hj))).trans (h.same i hi hd)⟩
theorem Kept.add {H':Hp} (h:Kept H H' d) {o:O}:Kept H (Hp.add H' o) d:=⟨Nat.le_succ_of_le h.nxt,fun i hi hd=>(if_neg (Nat.ne_of_lt (Nat.lt_of_lt_of_le hi h.nxt))).trans (h.same i hi hd)⟩
theorem Kept.trans {H' H'':Hp} (h:Kept H H' d) (h':Kept H' H'' d):Kept H H'' d:=⟨Nat.le_trans h.nxt h'.nxt,fun i hi hd=>(h'.same i (Nat.lt_of_lt_of_le hi h.nxt) hd).trans (h.same i hi hd)⟩
theorem qLd {D L:O}:Kept H (grown H d D L) d:=⟨Nat.le_succ _,fun i hi hd=>(if_neg (Nat.ne_of_lt hi)).trans (if_neg hd)⟩
structure PK (H:Hp) (k d:Nat) (fs:qX) (H':Hp):Prop where
 po:PO H' k d fs
 kept:Kept H H' d
 k:k < H.nxt
 d:d < H.nxt
theorem PK.put {H':Hp} (h:PK H k d fs H') {fs':qX}:PK H k d fs' (hput H' d (.dict fs')):=⟨h.po.put,h.kept.put,h.k,h.d⟩
theorem PK.new {H':Hp} (h:PK H k d fs H') (hj:H.nxt≤j) {o:O}:PK H k d fs (hput H' j o):=⟨h.po.oth (Nat.ne_of_lt (Nat.lt_of_lt_of_le h.k hj)) (Nat.ne_of_lt (Nat.lt_of_lt_of_le h.d hj)),h.kept.new hj,h.k,h.d⟩
theorem PK.add {H':Hp} (h:PK H k d fs H') {o:O}:PK H k d fs (Hp.add H' o) :=
 ⟨⟨(if_neg (Nat.ne_of_lt (Nat.lt_of_lt_of_le h.k h.kept.nxt))).trans h.po.inst,(if_neg (Nat.ne_of_lt (Nat.lt_of_lt_of_le h.d h.kept.nxt))).trans h.po.dict,h.po.ne⟩,h.kept.add,h.k,h.d⟩
structure F2 (fs:qX) (iw tw:Int) (x:PySem.Str) (c g m:Nat):Prop where
 kx:Kx fs m
 iw:fs.lookup ("indentwidth" : PySem.Str)=some (.int iw)
 tw:fs.lookup ("tabwidth" : PySem.Str)=some (.int tw)
 code:fs.lookup ("code" : PySem.Str)=some (.str x)
 cont:fs.lookup ("continuation" : PySem.Str)=some (.int (c:Nat))
 lev:fs.lookup ("study_level" : PySem.Str)=some (.int 2)
 good:fs.lookup ("goodlines" : PySem.Str)=some (.ref g)
noncomputable def zKz (f:PySem.Str):Bool:=([ "indentwidth", "tabwidth", "code", "continuation", "study_level", "goodlines"]:List PySem.Str).all fun y=>!(y == f)
theorem F2.set (h:F2 fs iw tw x c g m) {i:Nat} (hi:i < 11) (him:i≤m) {f:PySem.Str} (hf:canon.getD i "" = f) (ha:zKz f=true) {v:V}:F2 (setF f v fs) iw tw x c g (max m (i+1)):=by
 have e:∀ y∈([ "indentwidth", "tabwidth", "code", "continuation", "study_level", "goodlines"]:List PySem.Str),(y == f)=false:=fun y hy=>by
  have:=List.all_eq_true.mp ha y hy
  cases h:(y == f) with
  | false=>rfl
  | true=>rw [h] at this; cases this
 exact ⟨h.kx.set hi him hf,(qC (e _ (by decide))).trans h.iw,(qC (e _ (by decide))).trans h.tw,(qC (e _ (by decide))).trans h.code,(qC (e _ (by decide))).trans h.cont,(qC (e _ (by decide))).trans h.lev,(qC (e _ (by decide))).trans h.good⟩
theorem uO {o:O} (h:H.obj j=some o):hput H j o=H:=by
 unfold hput
 refine Eq.trans (congrArg (fun o=>Hp.mk o H.nxt) (funext fun i=>?_)) (rfl:Hp.mk H.obj H.nxt=H)
 by_cases e:i=j
 ·subst e; rw [if_pos rfl,h]
 ·rw [if_neg e]
theorem qLb {st:List Int} {br:List (Int×Int)} (h1:H.obj js=some (.list (qT st))) (h2:H.obj jb=some (.list (kL br))):xQ H js jb st br=H:=by
 unfold xQ
 rw [uO h1,uO h2]
noncomputable def hO (l:List Int):V:=match l.getLast? with
 | some o=>.int o
 | none=>.none
theorem qJr (hne:js≠jb) (hs:σ.obj js=some (.list (qT s.stack))) (h1:σ.loc.lookup ("stack" : PySem.Str)=some (.ref js)) (hl:s.stack.length≤1000):ev (T pp n).toCx (.ite (.var "stack") (.idx (.var "stack") (.neg (.int 1))) .none) σ=.ok (hO s.stack) σ:=by
 rw [qNp,Rs.bind_ok (qB h1)]
 unfold condR
 have ha:qM σ.toHp (.ref js)=some (qT s.stack):=by
  show (match σ.obj js with | some (.list xs)=>some xs | _=>none)=_
  rw [hs]
 have ht:zT σ.toHp (.ref js)=some !(qT s.stack).isEmpty:=by
  show (qM σ.toHp (.ref js)).map _=_
  rw [ha]; rfl
 rw [ht]
 rcases List.eq_nil_or_concat s.stack with e | ⟨l,a,e⟩
 ·rw [e]; rfl
 ·rw [e] at ha hl ⊢
  have hl':l.length≤999:=by rw [List.concat_eq_append,List.length_append] at hl; exact Nat.le_of_succ_le_succ hl
  have e1:qT (l.concat a)=qT l++[.int a]:=by rw [List.concat_eq_append]; unfold qT; rw [List.map_append]; rfl
  have e2:(!(qT (l.concat a)).isEmpty)=true:=by rw [e1]; cases qT l <;> rfl
  rw [e2]
  have e3:hO (l.concat a)=.int a:=by unfold hO; rw [List.concat_eq_append,List.getLast?_concat]
  rw [e3]
  refine xZ (qB h1) uV (wA (xs:=qT l++[.int a]) (j:=l.length) rfl (by rw [← e1]; exact ha) (by decide) ?_ ?_)
  ·have hq:(qT l++[V.int a]).length=l.length+1:=by unfold qT; rw [List.length_append,List.length_map]; rfl
   rw [hq]
   have e:(if (-1:Int) < 0 then (-1:Int)+(l.length+1:Nat) else -1)=((l.length:Nat):Int):=by rw [if_pos (by decide)]; lia
   unfold seqIndex?
   rw [e]
   exact (if_pos (by rw [Bool.and_eq_true]; exact ⟨decide_eq_true (Int.natCast_nonneg _),decide_eq_true (by lia)⟩)).trans (congrArg some (Int.toNat_natCast _))
  ·rw [List.getElem?_append_right (by unfold qT; rw [List.length_map]; exact Nat.le_refl _)]
   unfold qT; rw [List.length_map,Nat.sub_self]; rfl
noncomputable def F2x (fs:qX) (iw tw:Int) (x:PySem.Str) (c g:Nat) (s:S2):Prop:=F2 fs iw tw x c g 11∧fs.lookup ("lastch" : PySem.Str)=some (.str s.last)∧fs.lookup ("stmt_bracketing" : PySem.Str)=some (.tup (kL s.brk))
noncomputable def qIz (H:Hp) (k d:Nat) (iw tw:Int) (x:PySem.Str) (c g:Nat) (s:S2):Fl→St→Prop:=fun f σ'=>f=.next∧∃ fs',PK H k d fs' σ'.toHp∧F2x fs' iw tw x c g s
theorem qXm {H':Hp} (hne:js≠jb) (hjs:H.nxt≤js) (hjb:H.nxt≤jb) (h:A2 x k js jb H' q s σ) (hP:PK H k d fs H') (hF:F2 fs iw tw x c g 8) (h1:s.stack.length≤1000) (h2:s.brk.length≤1000) :
  Gd (ex qMq (T pp n) σ) (qIz H k d iw tw x c g s):=by
 have hP:PK H k d fs σ.toHp:=by rw [h.hp]; exact (hP.new hjs).new hjb
 have hdj:js≠d:=fun e=>absurd (Nat.lt_of_lt_of_le hP.d hjs) (by rw [e]; exact Nat.lt_irrefl _)
 have hdb:jb≠d:=fun e=>absurd (Nat.lt_of_lt_of_le hP.d hjb) (by rw [e]; exact Nat.lt_irrefl _)
 have hs:σ.toHp.obj js=some (.list (qT s.stack)):=by rw [h.hp]; exact qAu hne
 have hb:σ.toHp.obj jb=some (.list (kL s.brk)):=by rw [h.hp]; exact qNk
 obtain ⟨e1,e2,e3,e4⟩:σ.loc.lookup ("self" : PySem.Str)=some (.ref k)∧σ.loc.lookup ("lastch" : PySem.Str)=some (.str s.last)∧σ.loc.lookup ("stack" : PySem.Str)=some (.ref js)∧σ.loc.lookup ("bracketing" : PySem.Str)=some (.ref jb):=⟨h.self,h.last,h.stack,h.brk⟩
 clear h
 unfold qMq
 refine qF (xX (qB e2) (qB e1) (hP.po.setA bT (by decide) hF.kx.len) ?_)
 replace hF:=hF.set (i:=8) (f:="lastch") (v:=.str s.last) (by decide) (by decide) (by decide +kernel) (by decide +kernel)
 have hL:=@zB "lastch" (.str s.last) fs
 replace hP:=hP.put (fs':=setF "lastch" (.str s.last) fs)
 replace hs:=(zK (o:=.dict (setF "lastch" (.str s.last) fs)) hdj).trans hs
 replace hb:=(zK (o:=.dict (setF "lastch" (.str s.last) fs)) hdb).trans hb
 generalize setF "lastch" (.str s.last) fs=fs2 at hF hP hs hb hL ⊢
 generalize hσ:({ σ with toHp:=hput σ.toHp d (.dict fs2) }:St)=σ2
 replace e1:σ2.loc.lookup ("self" : PySem.Str)=some (.ref k):=by rw [← hσ]; exact e1
 replace e3:σ2.loc.lookup ("stack" : PySem.Str)=some (.ref js):=by rw [← hσ]; exact e3
 replace e4:σ2.loc.lookup ("bracketing" : PySem.Str)=some (.ref jb):=by rw [← hσ]; exact e4
 replace hs:σ2.toHp.obj js=some (.list (qT s.stack)):=by rw [← hσ]; exact hs
 replace hb:σ2.toHp.obj jb=some (.list (kL s.brk)):=by rw [← hσ]; exact hb
 replace hP:PK H k d fs2 σ2.toHp:=by rw [← hσ]; exact hP
 clear hσ e2
 refine qF (xX (qJr hne hs e3 h1) (qB e1) (hP.po.setA bT (by decide) hF.kx.len) ?_)
 replace hF:=hF.set (i:=9) (f:="lastopenbracketpos") (v:=hO s.stack) (by decide) (by decide) (by decide +kernel) (by decide +kernel)
 replace hL:=(qC (x:="lastch") (y:="lastopenbracketpos") (v:=hO s.stack) (fs:=fs2) (by decide)).trans hL
 replace hP:=hP.put (fs':=setF "lastopenbracketpos" (hO s.stack) fs2)
 replace hb:=(zK (o:=.dict (setF "lastopenbracketpos" (hO s.stack) fs2)) hdb).trans hb
 generalize setF "lastopenbracketpos" (hO s.stack) fs2=fs3 at hF hP hb hL ⊢
 generalize hσ:({ σ2 with toHp:=hput σ2.toHp d (.dict fs3) }:St)=σ3
 replace e1:σ3.loc.lookup ("self" : PySem.Str)=some (.ref k):=by rw [← hσ]; exact e1
 replace e4:σ3.loc.lookup ("bracketing" : PySem.Str)=some (.ref jb):=by rw [← hσ]; exact e4
 replace hb:σ3.toHp.obj jb=some (.list (kL s.brk)):=by rw [← hσ]; exact hb
 replace hP:PK H k d fs3 σ3.toHp:=by rw [← hσ]; exact hP
 clear hσ hs e3
 have ht:ev (T pp n).toCx (.call (.glob "tuple") (.cons (.var "bracketing") .nil)) σ3=.ok (.tup (kL s.brk)) σ3:=by
  refine zN (σ':=⟨σ3.toHp,[],[],none⟩) (qP (v:=.top (.type "tuple")) (by rw [bT.gl]; rfl)) (qD (qB e4) rfl) ?_
  rw [qGb,qJk]
  show (match σ3.obj jb with | some (.list xs)=>some xs | _=>Option.none).elim Rs.bad _=_
  rw [hb]; rfl
 refine qF (xX ht (qB e1) (hP.po.setA bT (by decide) hF.kx.len) (qG ⟨rfl,_,hP.put,?_,?_,zB⟩))
 ·exact hF.set (i:=10) (f:="stmt_bracketing") (by decide) (by decide) (by decide +kernel) (by decide +kernel)
 ·exact (qC (by decide)).trans hL
end
section
variable {pp:Params} {n k d j js jb:Nat} {H:Hp} {σ:St} {Q:Fl→St→Prop} {x:PySem.Str} {p q:Int} {s:S2} {fs:qX} {iw tw:Int} {c g m:Nat}
noncomputable def qVt:S:=(.seq (.setA2 (.var "self") "stmt_start" (.var "self") "stmt_end" (.tup (.cons (.var "p") (.cons (.var "q") .nil)))) (.seq (.asg "lastch" (.str "")) (.seq (.own "stack" (.list .nil)) (.seq (.asg "push_stack" (.attr (.var "stack") "append")) (.seq (.own "bracketing" (.list (.cons (.tup (.cons (.var "p") (.cons (.int 0) .nil))) .nil))) (.seq w2L qMq))))))
theorem qRh {o:Option S2} {s':S2} (h:qRi o=some s'):o=some s'∧s'.stack.length≤1000∧s'.brk.length≤1000:=by
 obtain ⟨s,rfl,h2⟩:=Option.bind_eq_some_iff.mp h
 by_cases e:s.stack.length≤1000∧s.brk.length≤1000
 ·rw [if_pos e] at h2; cases h2; exact ⟨rfl,e⟩
 ·rw [if_neg e] at h2; cases h2
theorem qHk {s':S2} (hP:PK H k d fs σ.toHp) (hF:F2 fs iw tw x c g 6) (e1:σ.loc.lookup ("self" : PySem.Str)=some (.ref k)) (e2:σ.loc.lookup ("code" : PySem.Str)=some (.str x)) (e3:σ.loc.lookup ("p" : PySem.Str)=some (.int p)) (e4:σ.loc.lookup ("q" : PySem.Str)=some (.int q))
  (hl:qRi (yS x q 1000 ⟨p,[],[(p,0)],""⟩)=some s'):Gd (ex qVt (T pp n) σ) (qIz H k d iw tw x c g s'):=by
 obtain ⟨hl,l1,l2⟩:=qRh hl
 unfold qVt
 refine qF (qWu (σ₁:=σ) (σ₂:=σ) (σ₄:={ σ with toHp:=hput σ.toHp d (.dict (setF "stmt_start" (.int p) fs)) }) (qDf (qD (qB e3) (qD (qB e4) rfl)) (by show 2≤sizeLine; decide)) (qB e1) (hP.po.setA bT (by decide) hF.kx.len) (qB e1) (hP.put.po.setA bT (by decide) (hF.set (i:=6) (f:="stmt_start") (v:=.int p) (by decide) (by decide) (by decide +kernel) (by decide +kernel)).kx.len) ?_)
 replace hF:=(hF.set (i:=6) (f:="stmt_start") (v:=.int p) (by decide) (by decide) (by decide +kernel) (by decide +kernel)).set (i:=7) (f:="stmt_end") (v:=.int q) (by decide) (by decide) (by decide +kernel) (by decide +kernel)
 replace hP:=(hP.put (fs':=setF "stmt_start" (.int p) fs)).put (fs':=setF "stmt_end" (.int q) (setF "stmt_start" (.int p) fs))
 generalize setF "stmt_end" (.int q) (setF "stmt_start" (.int p) fs)=fs2 at hF hP ⊢
 generalize hσ:({ σ with toHp:=hput (hput σ.toHp d (.dict (setF "stmt_start" (.int p) fs))) d (.dict fs2) }:St)=σ2
 have hσ':({ ({ σ with toHp:=hput σ.toHp d (.dict (setF "stmt_start" (.int p) fs)) }:St) with toHp:=hput (hput σ.toHp d (.dict (setF "stmt_start" (.int p) fs))) d (.dict fs2) }:St)=σ2:=hσ
 replace e1:σ2.loc.lookup ("self" : PySem.Str)=some (.ref k):=by rw [← hσ]; exact e1
 replace e2:σ2.loc.lookup ("code" : PySem.Str)=some (.str x):=by rw [← hσ]; exact e2
 replace e3:σ2.loc.lookup ("p" : PySem.Str)=some (.int p):=by rw [← hσ]; exact e3
 replace e4:σ2.loc.lookup ("q" : PySem.Str)=some (.int q):=by rw [← hσ]; exact e4
 replace hP:PK H k d fs2 σ2.toHp:=by rw [← hσ]; exact hP
 clear hσ hσ'
 refine gd_sasg (v:=.str "") rfl ?_
 replace e1:=@qA σ2 "lastch" "self" (.str "") _ (by decide) e1
 replace e2:=@qA σ2 "lastch" "code" (.str "") _ (by decide) e2
 replace e3:=@qA σ2 "lastch" "p" (.str "") _ (by decide) e3
 replace e4:=@qA σ2 "lastch" "q" (.str "") _ (by decide) e4
 have e5:=@qE σ2 "lastch" (.str "")
 replace hP:PK H k d fs2 (σ2.set "lastch" (.str "")).toHp:=hP
 generalize σ2.set "lastch" (.str "")=σ at e1 e2 e3 e4 e5 hP ⊢
 refine qF (qFm (σ₁:=σ) (xs:=[]) (vI rfl (by decide)) ?_)
 have hs:((σ.add (.list [])).set "stack" (.ref σ.nxt)).obj σ.nxt=some (.list []):=if_pos rfl
 have hlt:σ.nxt < ((σ.add (.list [])).set "stack" (.ref σ.nxt)).nxt:=Nat.lt_succ_self _
 have hle:H.nxt≤σ.nxt:=hP.kept.nxt
 replace e1:=@qA (σ.add (.list [])) "stack" "self" (.ref σ.nxt) _ (by decide) e1
 replace e2:=@qA (σ.add (.list [])) "stack" "code" (.ref σ.nxt) _ (by decide) e2
 replace e3:=@qA (σ.add (.list [])) "stack" "p" (.ref σ.nxt) _ (by decide) e3
 replace e4:=@qA (σ.add (.list [])) "stack" "q" (.ref σ.nxt) _ (by decide) e4
 replace e5:=@qA (σ.add (.list [])) "stack" "lastch" (.ref σ.nxt) _ (by decide) e5
 have e6:=@qE (σ.add (.list [])) "stack" (.ref σ.nxt)
 replace hP:PK H k d fs2 ((σ.add (.list [])).set "stack" (.ref σ.nxt)).toHp:=hP.add
 generalize hj:σ.nxt=js at hs hlt hle e1 e2 e3 e4 e5 e6 hP ⊢
 generalize (σ.add (.list [])).set "stack" (.ref js)=σ at hs hlt e1 e2 e3 e4 e5 e6 hP ⊢
 clear hj
 refine gd_sasg (zR (qB e6) (qCd bT hs)) ?_
 replace e1:=@qA σ "push_stack" "self" (.bnd js) _ (by decide) e1
 replace e2:=@qA σ "push_stack" "code" (.bnd js) _ (by decide) e2
 replace e3:=@qA σ "push_stack" "p" (.bnd js) _ (by decide) e3
 replace e4:=@qA σ "push_stack" "q" (.bnd js) _ (by decide) e4
 replace e5:=@qA σ "push_stack" "lastch" (.bnd js) _ (by decide) e5
 replace e6:=@qA σ "push_stack" "stack" (.bnd js) _ (by decide) e6
 have e7:=@qE σ "push_stack" (.bnd js)
 replace hP:PK H k d fs2 (σ.set "push_stack" (.bnd js)).toHp:=hP
 replace hs:(σ.set "push_stack" (.bnd js)).obj js=some (.list []):=hs
 replace hlt:js < (σ.set "push_stack" (.bnd js)).nxt:=hlt
 generalize σ.set "push_stack" (.bnd js)=σ at hs hlt e1 e2 e3 e4 e5 e6 e7 hP ⊢
 refine qF (qFm (σ₁:=σ) (xs:=[.tup [.int p,.int 0]]) (vI (qD (qDf (qD (qB e3) (qD rfl rfl)) (by show 2≤sizeLine; decide)) rfl) (by show 1≤sizeLine; decide)) ?_)
 have hb:((σ.add (.list [.tup [.int p,.int 0]])).set "bracketing" (.ref σ.nxt)).obj σ.nxt=some (.list [.tup [.int p,.int 0]]):=if_pos rfl
 replace hs:((σ.add (.list [.tup [.int p,.int 0]])).set "bracketing" (.ref σ.nxt)).obj js=some (.list []):=(if_neg (Nat.ne_of_lt hlt)).trans hs
 have hne:js≠σ.nxt:=Nat.ne_of_lt hlt
 have hle2:H.nxt≤σ.nxt:=hP.kept.nxt
 replace e1:=@qA (σ.add (.list [.tup [.int p,.int 0]])) "bracketing" "self" (.ref σ.nxt) _ (by decide) e1
 replace e2:=@qA (σ.add (.list [.tup [.int p,.int 0]])) "bracketing" "code" (.ref σ.nxt) _ (by decide) e2
 replace e3:=@qA (σ.add (.list [.tup [.int p,.int 0]])) "bracketing" "p" (.ref σ.nxt) _ (by decide) e3
 replace e4:=@qA (σ.add (.list [.tup [.int p,.int 0]])) "bracketing" "q" (.ref σ.nxt) _ (by decide) e4
 replace e5:=@qA (σ.add (.list [.tup [.int p,.int 0]])) "bracketing" "lastch" (.ref σ.nxt) _ (by decide) e5
 replace e6:=@qA (σ.add (.list [.tup [.int p,.int 0]])) "bracketing" "stack" (.ref σ.nxt) _ (by decide) e6
 replace e7:=@qA (σ.add (.list [.tup [.int p,.int 0]])) "bracketing" "push_stack" (.ref σ.nxt) _ (by decide) e7
 have e8:=@qE (σ.add (.list [.tup [.int p,.int 0]])) "bracketing" (.ref σ.nxt)
 replace hP:PK H k d fs2 ((σ.add (.list [.tup [.int p,.int 0]])).set "bracketing" (.ref σ.nxt)).toHp:=hP.add
 generalize hj:σ.nxt=jb at hs hb hne hle2 e1 e2 e3 e4 e5 e6 e7 e8 hP ⊢
 generalize (σ.add (.list [.tup [.int p,.int 0]])).set "bracketing" (.ref jb)=σ at hs hb e1 e2 e3 e4 e5 e6 e7 e8 hP ⊢
 clear hj hlt
 have hA:A2 x k js jb σ.toHp q ⟨p,[],[(p,0)],""⟩ σ:=⟨e1,e2,e3,e4,e5,e6,e7,e8,(qLb hs hb).symm⟩
 refine zX ((qQr hne hA hl).mono ?_)
 rintro f σ' ⟨rfl,h'⟩
 exact qXm hne hle hle2 h' hP hF l1 l2
theorem zEd {r:Nat×Int×Int} {s':S2} (hP:PK H k d fs σ.toHp) (hF:F2 fs iw tw x c g 6) (e1:σ.loc.lookup ("self" : PySem.Str)=some (.ref k)) (e2:σ.loc.lookup ("code" : PySem.Str)=some (.str x)) (e3:σ.loc.lookup ("p" : PySem.Str)=some (.int r.2.1)) (e4:r.1≠0→σ.loc.lookup ("q" : PySem.Str)=some (.int r.2.2)) (e5:σ.loc.lookup ("i" : PySem.Str)=some (.int (r.1:Nat)))
  (hl:(if r.1=0 then (if r.2.1=0 then qRi (yS x r.2.1 1000 ⟨r.2.1,[],[(r.2.1,0)],""⟩) else none) else qRi (yS x r.2.2 1000 ⟨r.2.1,[],[(r.2.1,0)],""⟩))=some s'):Gd (ex qUk (T pp n) σ) (qIz H k d iw tw x c g s'):=by
 show Gd (ex (.seq (.ite (.cmp .Eq (.var "i") (.int 0)) (.seq (.assert (.cmp .Eq (.var "p") (.int 0))) (.seq (.asg "q" (.var "p")) .nil)) .nil) qVt) (T pp n) σ) _
 refine qJ (jN (qB e5) rfl) (fun e=>?_) (fun e=>?_)
 ·have h0:r.1=0:=by have:=eq_of_beq e; lia
  rw [if_pos h0] at hl
  by_cases hp:r.2.1=0
  ·rw [if_pos hp] at hl
   refine qW ?_ (gd_sasg (qB e3) (qG ?_))
   ·rw [jN (qB e3) rfl,hp]; rfl
   exact qHk (fs:=fs) (by exact hP) hF (qA (by decide) e1) (qA (by decide) e2) (qA (by decide) e3) qE hl
  ·rw [if_neg hp] at hl; cases hl
 ·have h0:¬ r.1=0:=fun q=>by rw [q] at e; cases e
  rw [if_neg h0] at hl
  exact qHk hP hF e1 e2 e3 (e4 h0) hl
noncomputable def qMl:S:=(.seq (.asg2 "code" "goodlines" (.tup (.cons (.attr (.var "self") "code") (.cons (.attr (.var "self") "goodlines") .nil)))) (.seq (.asg "i" (.bin .Sub (.call (.glob "len") (.cons (.var "goodlines") .nil)) (.int 1))) (.seq (.asg "p" (.call (.glob "len") (.cons (.var "code") .nil))) (.seq w1L qUk))))
theorem qGt {gl:List Nat} {s':S2} {fs1:qX} {σ1:St} (e1:σ1.loc.lookup ("self" : PySem.Str)=some (.ref k)) (hP:PK H k d fs1 σ1.toHp) (hF':FsS fs1 iw tw x 1 j c) (hj:σ1.toHp.obj j=some (.list (qI gl))) (hdj:j≠d) (hS:wL x gl=some s') :
  Gd (ex (.seq (.setA (.var "self") "study_level" (.int 2)) qMl) (T pp (n+1)) σ1) (qIz H k d iw tw x c j s'):=by
 have hG:=hF'.good
 unfold qMl
 refine qF (xX (v:=.int 2) (σ₁:=σ1) rfl (qB e1) (hP.po.setA bT (by decide) hF'.kx.len) ?_)
 have hne:∀ y∈([ "indentwidth", "tabwidth", "code", "continuation", "goodlines"]:List PySem.Str),(y == "study_level")=false:=by decide +kernel
 have hF2:F2 (setF "study_level" (.int 2) fs1) iw tw x c j 6:=⟨(hF'.kx6.set (i:=3) (by decide) (by decide) (by decide +kernel)).less (by decide),(qC (hne _ (by decide))).trans hF'.iw,(qC (hne _ (by decide))).trans hF'.tw,(qC (hne _ (by decide))).trans hF'.code,(qC (hne _ (by decide))).trans hF'.cont,zB,(qC (hne _ (by decide))).trans hG⟩
 have hG2:(setF "study_level" (.int 2) fs1).lookup ("goodlines" : PySem.Str)=some (.ref j):=(qC (hne _ (by decide))).trans hG
 replace hP:=hP.put (fs':=setF "study_level" (.int 2) fs1)
 replace hj:=(zK (o:=.dict (setF "study_level" (.int 2) fs1)) hdj).trans hj
 generalize setF "study_level" (.int 2) fs1=fs2 at hF2 hG2 hP hj ⊢
 generalize hσ:({ σ1 with toHp:=hput σ1.toHp d (.dict fs2) }:St)=σ2
 replace e1:σ2.loc.lookup ("self" : PySem.Str)=some (.ref k):=by rw [← hσ]; exact e1
 replace hP:PK H k d fs2 σ2.toHp:=by rw [← hσ]; exact hP
 replace hj:σ2.toHp.obj j=some (.list (qI gl)):=by rw [← hσ]; exact hj
 clear hσ hF' hG
 unfold wL at hS
 by_cases hgl:gl.length=0∨gl.length > 1000
 ·rw [if_pos hgl] at hS; cases hS
 rw [if_neg hgl] at hS
 have g0:0 < gl.length:=Nat.pos_of_ne_zero fun q=>hgl (.inl q)
 have g1:gl.length≤1000:=Nat.not_lt.mp fun q=>hgl (.inr q)
 obtain ⟨r,hr,hS⟩:=Option.bind_eq_some_iff.mp hS
 refine qF (qAv (σ₁:=σ2) (qDf (xs:=[.str x,.ref j]) (qD (zR (qB e1) (hP.po.fld bT (by decide) hF2.code rfl)) (qD (zR (qB e1) (hP.po.fld bT (by decide) hG2 rfl)) rfl)) (by show 2≤sizeLine; decide)) ?_)
 have e2:=@qA (σ2.set "code" (.str x)) "goodlines" "code" (.ref j) _ (by decide) qE
 have e3:=@qE (σ2.set "code" (.str x)) "goodlines" (.ref j)
 replace e1:=@qA (σ2.set "code" (.str x)) "goodlines" "self" (.ref j) _ (by decide) (qA (by decide) e1)
 replace hP:PK H k d fs2 ((σ2.set "code" (.str x)).set "goodlines" (.ref j)).toHp:=hP
 replace hj:((σ2.set "code" (.str x)).set "goodlines" (.ref j)).toHp.obj j=some (.list (qI gl)):=hj
 generalize (σ2.set "code" (.str x)).set "goodlines" (.ref j)=σ3 at e1 e2 e3 hP hj ⊢
 have hlen:ev (T pp (n+1)).toCx (.call (.glob "len") (.cons (.var "goodlines") .nil)) σ3=.ok (.int (gl.length:Nat)) σ3 :=
  zN (σ':=⟨σ3.toHp,[],[],none⟩) (qP (qFk bT)) (qD (qB e3) rfl) (by
   rw [bT.bl,uT hj]
   unfold qI; rw [List.length_map]; rfl)
 refine gd_sasg (jM hlen rfl) ?_
 have ei:((gl.length:Nat):Int) - 1=((gl.length - 1:Nat):Int):=by lia
 rw [ei]
 have e4:=@qE σ3 "i" (.int ((gl.length - 1:Nat):Int))
 replace e1:=@qA σ3 "i" "self" (.int ((gl.length - 1:Nat):Int)) _ (by decide) e1
 replace e2:=@qA σ3 "i" "code" (.int ((gl.length - 1:Nat):Int)) _ (by decide) e2
 replace e3:=@qA σ3 "i" "goodlines" (.int ((gl.length - 1:Nat):Int)) _ (by decide) e3
 replace hP:PK H k d fs2 (σ3.set "i" (.int ((gl.length - 1:Nat):Int))).toHp:=hP
 replace hj:(σ3.set "i" (.int ((gl.length - 1:Nat):Int))).toHp.obj j=some (.list (qI gl)):=hj
 generalize σ3.set "i" (.int ((gl.length - 1:Nat):Int))=σ4 at e1 e2 e3 e4 hP hj ⊢
 refine gd_sasg (uF bT e2) ?_
 have hA:A1 x k j σ4.toHp (gl.length - 1) (x.length:Nat) (σ4.set "p" (.int (x.length:Nat))):=⟨qA (by decide) e1,qA (by decide) e2,qA (by decide) e3,qA (by decide) e4,qE,rfl⟩
 refine zX ((qTn hj g1 (Nat.sub_lt g0 (Nat.succ_pos 0)) hA hr).mono ?_)
 rintro f σ' ⟨rfl,h',hq⟩
 exact zEd (by rw [h'.hp]; exact hP) hF2 h'.self h'.code h'.p hq h'.i hS
structure Std (H:Hp) (k d:Nat) (iw tw:Int) (x:PySem.Str) (gl:List Nat) (c:Nat) (fs:qX):Prop where
 po:PO H k d fs
 st:∃ j,FsS fs iw tw x 1 j c∧H.obj j=some (.list (qI gl))∧j≠d∧j < H.nxt
 k:k < H.nxt
 d:d < H.nxt
theorem yO {gl:List Nat} (h:Ready H k d fs iw tw x gl c):Std (grown H d (.dict (stud fs H.nxt c)) (.list (qI gl))) k d iw tw x gl c (stud fs H.nxt c) :=
 ⟨qWm h.po h.k h.d,⟨H.nxt,qZw (j:=H.nxt) (c:=c) h.fs,if_pos rfl,Nat.ne_of_gt h.d,Nat.lt_succ_self _⟩,Nat.lt_succ_of_lt h.k,Nat.lt_succ_of_lt h.d⟩
theorem qEs {gl:List Nat} (h:Std H k d iw tw x gl c fs):∃ σ',(T pp (n+1)).app (.top (.ref 183)) [.ref k] H=.ok .none σ'∧σ'.toHp=H:=by
 obtain ⟨j,hF,_⟩:=h.st
 have main:Gd (ex kG (T pp n) (entry ((["self"]:List PySem.Str).zip [.ref k]) H)) fun f σ'=>f=.ret .none∧σ'.toHp=H:=by
  have h1:(entry ((["self"]:List PySem.Str).zip [.ref k]) H).loc.lookup ("self" : PySem.Str)=some (.ref k):=rfl
  have h2:(entry ((["self"]:List PySem.Str).zip [.ref k]) H).toHp=H:=rfl
  generalize entry ((["self"]:List PySem.Str).zip [.ref k]) H=σ at h1 h2 ⊢
  subst h2
  unfold kG
  exact qJ (t:=decide ((1:Int) ≥ 1)) (jQ (zR (qB h1) (h.po.fld bT (v:=.int 1) (by decide) hF.lev rfl)) rfl) (fun _=>qF (qFl ⟨rfl,rfl⟩)) fun q=>absurd q (by decide)
 obtain ⟨f,σ',e,rfl,w⟩:=main
 refine ⟨σ',?_,w⟩
 rw [qV rfl (by decide)]
 exact zJ (by rfl) rfl e rfl
theorem qWo {gl:List Nat} (h:Ready H k d fs iw tw x gl c):∃ σ',(T pp (n+2)).app (.top (.ref 190)) [.ref k] H=.ok (.int (c:Nat)) σ'∧Kept H σ'.toHp d∧∃ fs',Std σ'.toHp k d iw tw x gl c fs':=by
 have main:Gd (ex uP (T pp (n+1)) (entry ((["self"]:List PySem.Str).zip [.ref k]) H)) fun f σ'=>f=.ret (.int (c:Nat))∧σ'.toHp=grown H d (.dict (stud fs H.nxt c)) (.list (qI gl)):=by
  have h1:(entry ((["self"]:List PySem.Str).zip [.ref k]) H).loc.lookup ("self" : PySem.Str)=some (.ref k):=rfl
  have h2:(entry ((["self"]:List PySem.Str).zip [.ref k]) H).toHp=H:=rfl
  generalize entry ((["self"]:List PySem.Str).zip [.ref k]) H=σ at h1 h2 ⊢
  subst h2
  obtain ⟨σ₂,a1,a2⟩:=qOo (pp:=pp) (n:=n) h
  unfold uP
  refine zQ (zD (qB h1) (h.po.get bT (h.fs.kx.meth (by decide)) (by rfl)) (xs:=[]) rfl a1) ?_
  rw [a2]
  have hS:=yO h
  obtain ⟨j,hF,_⟩:=hS.st
  exact qF (xN (zR (qB h1) (hS.po.fld bT (by decide) hF.cont rfl)) ⟨rfl,rfl⟩)
 obtain ⟨f,σ',e,rfl,w⟩:=main
 refine ⟨σ',?_,by rw [w]; exact qLd,stud fs H.nxt c,by rw [w]; exact yO h⟩
 rw [qV rfl (by decide)]
 exact zJ (by rfl) rfl e rfl
theorem qJp {gl:List Nat} (h:Std H k d iw tw x gl c fs) {s':S2} (hS:wL x gl=some s'):∃ σ',(T pp (n+2)).app (.top (.ref 197)) [.ref k] H=.ok .none σ'∧∃ fs' j,PK H k d fs' σ'.toHp∧F2x fs' iw tw x c j s'∧σ'.toHp.obj j=some (.list (qI gl))∧j≠d∧j < H.nxt:=by
 obtain ⟨j,hF,hj,hdj,hjn⟩:=h.st
 have main:Gd (ex jS (T pp (n+1)) (entry ((["self"]:List PySem.Str).zip [.ref k]) H)) (qIz H k d iw tw x c j s'):=by
  have h1:(entry ((["self"]:List PySem.Str).zip [.ref k]) H).loc.lookup ("self" : PySem.Str)=some (.ref k):=rfl
  have h2:(entry ((["self"]:List PySem.Str).zip [.ref k]) H).toHp=H:=rfl
  generalize entry ((["self"]:List PySem.Str).zip [.ref k]) H=σ at h1 h2 ⊢
  subst h2
  obtain ⟨σ₂,a1,a2⟩:=qEs (pp:=pp) (n:=n) h
  rw [qDk]
  refine qJ (t:=decide ((1:Int) ≥ 2)) (jQ (zR (qB h1) (h.po.fld bT (v:=.int 1) (by decide) hF.lev rfl)) rfl) (fun q=>absurd q (by decide)) fun _=>?_
  refine zQ (zD (qB h1) (h.po.get bT (hF.kx.meth (by decide)) (by rfl)) (xs:=[]) rfl a1) ?_
  exact qGt (σ1:={ σ with toHp:=σ₂.toHp }) h1 (by rw [a2]; exact ⟨h.po,Kept.refl,h.k,h.d⟩) hF (by rw [a2]; exact hj) hdj hS
 obtain ⟨f,σ',e,rfl,w⟩:=main
 obtain ⟨fs',w1,w2⟩:=w
 refine ⟨σ',?_,fs',j,w1,w2,(w1.kept.same j hjn hdj).trans hj,hdj,hjn⟩
 rw [qV rfl (by decide)]
 exact zJ (by rfl) rfl e rfl
end
section
variable {pp:Params} {n k d:Nat} {H:Hp} {fs:qX} {σ:St}
theorem zFz {args:List V} (n:Nat):(T pp n).app (.top (.ref 63)) args H=vD args H:=by
 have key:∀ r:Rs V,(if (63:Nat)=63 then vD args H else r)=vD args H:=fun r=>if_pos rfl
 match n with
 | 0=>exact key ((jT 63).elim (noF 63 args H) fun code=>vO code args H)
 | 1=>exact key ((jT 63).elim (qY rows09 (T pp 0) 63 args H) fun code=>vO code args H)
 | n+2=>exact key ((jT 63).elim (qBt (G09 pp) (qY rows09 (T pp n) 155) (qY rows09 (T pp (n+1))) 63 args H) fun code=>vO code args H)
theorem zEf:vN "start" = some "re.Match.start" := by unfold vN; rw [if_neg (by decide),if_pos rfl]
theorem zKa:vN "span" = some "re.Match.span" := by unfold vN; rw [if_neg (by decide),if_neg (by decide),if_pos rfl]
theorem qWq {p e:Nat} {m:PySem.Str} {i:String} (h:vN m=some i):(T pp n).get (.mt p e) m H=some (.top (.builtin i),[.mt p e]):=by
 rw [bT.get]
 show Option.map (fun i:String=>(V.top (.builtin i),[V.mt p e])) (vN m)=_
 rw [h]; rfl
theorem qLs {c:Bool} {p e:Nat}:bapp c "re.Match.start" [.mt p e] H=okH (.int (p:Nat)) H:=by
 unfold bapp
 rw [if_neg (by decide),if_neg (by decide),if_neg (by decide),if_neg (by decide),if_neg (by decide),if_neg (by decide),if_pos rfl]; rfl
theorem qSf {c:Bool} {p e:Nat}:bapp c "re.Match.span" [.mt p e] H=okH (.tup [.int (p:Nat),.int (e:Nat)]) H:=by
 unfold bapp
 rw [if_neg (by decide),if_neg (by decide),if_neg (by decide),if_neg (by decide),if_neg (by decide),if_neg (by decide),if_neg (by decide),if_pos rfl]; rfl
noncomputable def rfind2 (x y:PySem.Str) (i:Int):Int:=jC x y (xD x.length 0) (min (xD x.length i) x.length)
noncomputable def skF (x:PySem.Str) (is:List Int):Option (Option (Nat×Nat)):=if wP is=true then qBh code1 x.cps (min (qZ is).toNat x.cps.size) (min (zC is).toNat x.cps.size) else none
noncomputable def qEp (x:PySem.Str) (bar:Int):Nat→Int→Option (Option Nat)
 | 0,_=>some none
 | n+1,lim=>if rfind2 x ":\n" lim < 0 then some none else (skF x [rfind2 x "\n" (rfind2 x ":\n" lim)+1,lim]).bind fun r=>match r with
  | some m=>if ((m.1:Nat):Int) < bar then qEp x bar n (rfind2 x "\n" (rfind2 x ":\n" lim)+1) else some (some m.1)
  | none=>qEp x bar n (rfind2 x "\n" (rfind2 x ":\n" lim)+1)
noncomputable def qBs (x:PySem.Str) (bar:Int):Nat→Int→Nat→Option Nat
 | 0,_,_=>none
 | n+1,i,pos=>(skF x [i]).bind fun r=>match r with
  | some m=>qBs x bar n (m.2:Nat) (if ((m.1:Nat):Int) < bar then pos else m.1)
  | none=>some pos
noncomputable def findF (x:PySem.Str) (bar:Int):Option (Option Nat):=(qEp x bar 5 (x.length:Nat)).bind fun r=>match r with
 | some pos=>(qBs x bar 1000 ((pos:Nat)+1) pos).map some
 | none=>(skF x []).map fun r=>r.bind fun m=>if ((m.1:Nat):Int) < bar then none else some m.1
noncomputable def posV (o:Option Nat):V:=o.elim .none fun p=>.int (p:Nat)
structure Fr (x:PySem.Str) (vt:V) (H:Hp) (pos:V) (σ:St):Prop where
 code:σ.loc.lookup ("code" : PySem.Str)=some (.str x)
 test:σ.loc.lookup ("is_char_in_string" : PySem.Str)=some vt
 pos:σ.loc.lookup ("pos" : PySem.Str)=some pos
 hp:σ.toHp=H
section
variable {x:PySem.Str} {vt pos v:V} {bar:Int} {Q:Fl→St→Prop}
theorem Fr.oth (h:Fr x vt H pos σ) {y:PySem.Str} (hy:("code" == y)=false∧("is_char_in_string" == y)=false∧("pos" == y)=false):Fr x vt H pos (σ.set y v):=⟨qA hy.1 h.code,qA hy.2.1 h.test,qA hy.2.2 h.pos,h.hp⟩
theorem Fr.setp (h:Fr x vt H pos σ):Fr x vt H v (σ.set "pos" v):=⟨qA (by decide) h.code,qA (by decide) h.test,qE,h.hp⟩
theorem qGd {y:PySem.Str} {e:X} {i:Int} (hc:σ.loc.lookup ("code" : PySem.Str)=some (.str x)) (he:ev (T pp n).toCx e σ=.ok (.int i) σ):ev (T pp n).toCx (.meth (.var "code") "rfind" (.cons (.str y) (.cons (.int 0) (.cons e .nil)))) σ=.ok (.int (rfind2 x y i)) σ :=
 zD (σ':=⟨σ.toHp,[],[],none⟩) (qB hc) (wB bT qNa) (qD rfl (qD rfl (qD he rfl))) (by
  rw [bT.bl]
  show bapp _ "str.rfind" [.str x,.str y,.int 0,.int i] _=_
  rw [qCo]; rfl)
theorem qSs {as:X} {vs:List V} {is:List Int} {r:Option (Nat×Nat)} (ha:ev (T pp n).toCx as σ=.ok (.list (.str x::vs)) σ) (hi:qDw vs=some is) (hs:skF x is=some r):ev (T pp n).toCx (.call (.glob "_synchre") as) σ=.ok (mtV r) σ:=by
 refine zN (σ':=⟨σ.toHp,[],[],none⟩) (qP (v:=.top (.ref 63)) (by rw [bT.gl]; rfl)) ha ?_
 rw [zFz]
 show (qDw vs).elim Rs.bad _=_
 rw [hi]
 show wC (fun x=>qBh code1 x.cps) x is σ.toHp=_
 rw [uR (R:=fun x=>qBh code1 x.cps) hs]; rfl
theorem qMc {z:X} {p e:Nat} (hz:ev (T pp n).toCx z σ=.ok (.mt p e) σ):ev (T pp n).toCx (.meth z "start" .nil) σ=.ok (.int (p:Nat)) σ :=
 zD (σ':=⟨σ.toHp,[],[],none⟩) hz (qWq zEf) (xs:=[]) rfl (by
  rw [bT.bl]; exact qLs)
theorem zHa {z:X} {p e:Nat} (hz:ev (T pp n).toCx z σ=.ok (.mt p e) σ):ev (T pp n).toCx (.meth z "span" .nil) σ=.ok (.tup [.int (p:Nat),.int (e:Nat)]) σ :=
 zD (σ':=⟨σ.toHp,[],[],none⟩) hz (qWq zKa) (xs:=[]) rfl (by
  rw [bT.bl]; exact qSf)
noncomputable def Ask (pp:Params) (n:Nat) (H:Hp) (vt:V) (bar:Int):Prop:=∀ p:Nat,∃ σ',(T pp n).app vt [.int (p:Nat)] H=.ok (.bool (decide ((p:Int) < bar))) σ'∧σ'.toHp=H
theorem qSr (hT:Ask pp n H vt bar) (h:Fr x vt H pos σ) {e:X} {p:Nat} (he:ev (T pp n).toCx e σ=.ok (.int (p:Nat)) σ):ev (T pp n).toCx (.call (.var "is_char_in_string") (.cons e .nil)) σ=.ok (.bool (decide ((p:Int) < bar))) σ:=by
 obtain ⟨σ',e1,e2⟩:=hT p
 have:=zN (qB h.test) (show ev (T pp n).toCx (.cons e .nil) σ=.ok (.list [.int (p:Nat)]) σ from qD he rfl) (by rw [h.hp]; exact e1)
 rw [e2,← h.hp] at this
 exact this
theorem zGl {a:X} {b:Bool} {cx:Cx} (ha:ev cx a σ=.ok (.bool b) σ):ev cx (.not a) σ=.ok (.bool !b) σ:=by
 rw [zFh,Rs.bind_ok ha]; rfl
noncomputable def okX:X:=.and (.var "m") (.not (.call (.var "is_char_in_string") (.cons (.meth (.var "m") "start" .nil) .nil)))
theorem qUz {r:Option (Nat×Nat)} {K R:S} (hT:Ask pp n H vt bar) (h:Fr x vt H pos σ) (hm:σ.loc.lookup ("m" : PySem.Str)=some (mtV r))
  (h1:∀ m,r=some m→¬ ((m.1:Nat):Int) < bar→Gd (ex K (T pp n) (σ.set "pos" (.int (m.1:Nat)))) (qAp R (T pp n) Q)) (h2:(r=none∨∃ m,r=some m∧((m.1:Nat):Int) < bar)→Gd (ex R (T pp n) σ) Q) :
  Gd (ex (.seq (.ite okX (.seq (.asg "pos" (.meth (.var "m") "start" .nil)) K) .nil) R) (T pp n) σ) Q:=by
 cases r with
 | none =>
  have e:ev (T pp n).toCx okX σ=.ok .none σ:=by
   unfold okX
   rw [qFq,Rs.bind_ok (qB hm)]; rfl
  exact zX (vP (t:=false) e rfl (fun q=>by cases q) fun _=>qG (h2 (.inl rfl)))
 | some m =>
  have e:ev (T pp n).toCx okX σ=.ok (.bool !decide (((m.1:Nat):Int) < bar)) σ:=by
   unfold okX
   rw [qFq,Rs.bind_ok (qB hm)]
   exact zGl (qSr hT h (qMc (qB hm)))
  by_cases hb:((m.1:Nat):Int) < bar
  ·rw [decide_eq_true hb] at e
   exact qJ (t:=false) e (fun q=>by cases q) fun _=>h2 (.inr ⟨m,rfl,hb⟩)
  ·rw [decide_eq_false hb] at e
   exact qJ (t:=true) e (fun _=>gd_sasg (qMc (qB hm)) (h1 m rfl hb)) fun q=>by cases q
noncomputable def qJg:S:=(.each "tries" (.call (.glob "range") (.cons (.int 5) .nil)) (.seq (.asg "i" (.meth (.var "code") "rfind" (.cons (.str ":\n") (.cons (.int 0) (.cons (.var "limit") .nil))))) (.seq (.ite (.cmp .Lt (.var "i") (.int 0)) (.seq .brk .nil) .nil) (.seq (.asg "i" (.bin .Add (.meth (.var "code") "rfind" (.cons (.str "\n") (.cons (.int 0) (.cons (.var "i") .nil)))) (.int 1))) (.seq (.asg "m" (.call (.glob "_synchre") (.cons (.var "code") (.cons (.var "i") (.cons (.var "limit") .nil))))) (.seq (.ite okX (.seq (.asg "pos" (.meth (.var "m") "start" .nil)) (.seq .brk .nil)) .nil) (.seq (.asg "limit" (.var "i")) .nil)))))))
noncomputable def qMz:S:=(.loop 1000 (.named "m" (.call (.glob "_synchre") (.cons (.var "code") (.cons (.var "i") .nil)))) (.seq (.asg2 "s" "i" (.meth (.var "m") "span" .nil)) (.seq (.ite (.not (.call (.var "is_char_in_string") (.cons (.var "s") .nil))) (.seq (.asg "pos" (.var "s")) .nil) .nil) .nil)) .nil)
theorem zFc:qFp=(.seq (.asg2 "code" "pos" (.tup (.cons (.attr (.var "self") "code") (.cons .none .nil)))) (.seq (.asg "limit" (.call (.glob "len") (.cons (.var "code") .nil))) (.seq qJg (.seq (.ite (.cmp .Is (.var "pos") .none) (.seq (.asg "m" (.call (.glob "_synchre") (.cons (.var "code") .nil))) (.seq (.ite okX (.seq (.asg "pos" (.meth (.var "m") "start" .nil)) .nil) .nil) (.seq (.ret (.var "pos")) .nil))) .nil) (.seq (.asg "i" (.bin .Add (.var "pos") (.int 1))) (.seq qMz (.seq (.ret (.var "pos")) .nil))))))):=rfl
theorem qOj {r:Option Nat} (hT:Ask pp n H vt bar) (h:Fr x vt H .none σ) {lim:Int} (hl:σ.loc.lookup ("limit" : PySem.Str)=some (.int lim)) (ht:qEp x bar 5 lim=some r):Gd (ex qJg (T pp n) σ) fun f σ'=>f=.next∧Fr x vt H (posV r) σ':=by
 have hr:ev (T pp n).toCx (.call (.glob "range") (.cons (.int 5) .nil)) σ=.ok (.rng 0 5 1) σ :=
  zN (σ':=⟨σ.toHp,[],[],none⟩) (qP (by rw [bT.gl]; rfl)) (qD rfl rfl) (by rw [qGb,wZ,qUs,if_pos (by decide +kernel)]; rfl)
 unfold qJg
 refine qFn (qCk n) hr (show xL σ.toHp (.rng 0 5 1)=some [.int 0,.int 1,.int 2,.int 3,.int 4] from rfl) (fun l σ=>∃ lim,Fr x vt H .none σ∧σ.loc.lookup ("limit" : PySem.Str)=some (.int lim)∧qEp x bar l.length lim=some r) ⟨lim,h,hl,ht⟩ (fun _ _ _=>rfl) ?_ ?_
 ·rintro y l σ ⟨lim,h,hl,ht⟩
  replace ht:(if rfind2 x ":\n" lim < 0 then some none else (skF x [rfind2 x "\n" (rfind2 x ":\n" lim)+1,lim]).bind fun r=>match r with
   | some m=>if ((m.1:Nat):Int) < bar then qEp x bar l.length (rfind2 x "\n" (rfind2 x ":\n" lim)+1) else some (some m.1)
   | none=>qEp x bar l.length (rfind2 x "\n" (rfind2 x ":\n" lim)+1))=some r:=ht
  have h0:=h.oth (v:=y) (y:="tries") (by decide)
  have hl0:(σ.set "tries" y).loc.lookup ("limit" : PySem.Str)=some (.int lim):=qA (by decide) hl
  generalize σ.set "tries" y=τ at h0 hl0 ⊢
  refine gd_sasg (qGd h0.code (qB hl0)) ?_
  generalize rfind2 x ":\n" lim=i at ht ⊢
  have h1:=h0.oth (v:=.int i) (y:="i") (by decide)
  have hl1:(τ.set "i" (.int i)).loc.lookup ("limit" : PySem.Str)=some (.int lim):=qA (by decide) hl0
  have hi1:(τ.set "i" (.int i)).loc.lookup ("i" : PySem.Str)=some (.int i):=qE
  generalize τ.set "i" (.int i)=ρ at h1 hl1 hi1 ⊢
  have ec:=qGf (qB (cx:=(T pp n).toCx) hi1) (show ev (T pp n).toCx (.int 0) ρ=.ok (.int 0) ρ from rfl)
  by_cases hneg:i < 0
  ·rw [if_pos hneg] at ht
   cases ht
   rw [decide_eq_true hneg] at ec
   exact qJ (t:=true) ec (fun _=>qF ⟨.brk,_,rfl,⟨rfl,h1⟩⟩) fun q=>by cases q
  rw [if_neg hneg] at ht
  rw [decide_eq_false hneg] at ec
  refine qJ (t:=false) ec (fun q=>by cases q) fun _=>?_
  refine gd_sasg (zG (qGd h1.code (qB hi1)) (show ev (T pp n).toCx (.int 1) ρ=.ok (.int 1) ρ from rfl)) ?_
  generalize rfind2 x "\n" i+1=j at ht ⊢
  have h2:=h1.oth (v:=.int j) (y:="i") (by decide)
  have hl2:(ρ.set "i" (.int j)).loc.lookup ("limit" : PySem.Str)=some (.int lim):=qA (by decide) hl1
  have hi2:(ρ.set "i" (.int j)).loc.lookup ("i" : PySem.Str)=some (.int j):=qE
  generalize ρ.set "i" (.int j)=τ at h2 hl2 hi2 ⊢
  obtain ⟨m,hs,ht⟩:=Option.bind_eq_some_iff.mp ht
  refine gd_sasg (qSs (qD (qB h2.code) (qD (qB hi2) (qD (qB hl2) rfl))) rfl hs) ?_
  have h3:=h2.oth (v:=mtV m) (y:="m") (by decide)
  have hi3:(τ.set "m" (mtV m)).loc.lookup ("i" : PySem.Str)=some (.int j):=qA (by decide) hi2
  have hm3:(τ.set "m" (mtV m)).loc.lookup ("m" : PySem.Str)=some (mtV m):=qE
  generalize τ.set "m" (mtV m)=ρ at h3 hi3 hm3 ⊢
  refine qUz hT h3 hm3 (fun q hq hb=>?_) fun hq=>?_
  ·subst hq
   replace ht:(if ((q.1:Nat):Int) < bar then qEp x bar l.length j else some (some q.1))=some r:=ht
   rw [if_neg hb] at ht
   cases ht
   exact qF ⟨.brk,_,rfl,⟨rfl,h3.setp⟩⟩
  ·refine gd_sasg (qB hi3) (qG ⟨j,h3.oth (by decide),qE,?_⟩)
   rcases hq with rfl | ⟨q,rfl,hb⟩
   ·exact ht
   ·replace ht:(if ((q.1:Nat):Int) < bar then qEp x bar l.length j else some (some q.1))=some r:=ht
    rw [if_pos hb] at ht
    exact ht
 ·rintro σ ⟨lim,h,hl,ht⟩
  cases ht
  exact ⟨rfl,h⟩
theorem qVr {i:Int} {p R:Nat} (hT:Ask pp n H vt bar) (h:Fr x vt H (.int (p:Nat)) σ) (hi:σ.loc.lookup ("i" : PySem.Str)=some (.int i)) (hm:qBs x bar 1000 i p=some R):Gd (ex qMz (T pp n) σ) fun f σ'=>f=.next∧Fr x vt H (.int (R:Nat)) σ':=by
 unfold qMz
 refine wR (fun k σ=>∃ i p,Fr x vt H (.int ((p:Nat):Int)) σ∧σ.loc.lookup ("i" : PySem.Str)=some (.int i)∧qBs x bar k i p=some R) ⟨i,p,h,hi,hm⟩ ?_
 rintro k σ ⟨i,p,h,hi,hm⟩
 cases k with
 | zero=>cases hm
 | succ k =>
  replace hm:((skF x [i]).bind fun r=>match r with
   | some m=>qBs x bar k ((m.2:Nat):Int) (if ((m.1:Nat):Int) < bar then p else m.1)
   | none=>some p)=some R:=hm
  obtain ⟨m,hs,hm⟩:=Option.bind_eq_some_iff.mp hm
  refine ⟨k,rfl,mtV m,σ.set "m" (mtV m),m.isSome,?_,qJf,fun q=>?_,fun q=>?_⟩
  ·rw [qRf,Rs.bind_ok (qSs (qD (qB h.code) (qD (qB hi) rfl)) rfl hs)]
  ·cases m with
   | none=>cases q
   | some m =>
    replace hm:qBs x bar k ((m.2:Nat):Int) (if ((m.1:Nat):Int) < bar then p else m.1)=some R:=hm
    have h1:=h.oth (v:=.mt m.1 m.2) (y:="m") (by decide)
    have e1:(σ.set "m" (mtV (some m))).loc.lookup ("m" : PySem.Str)=some (.mt m.1 m.2):=qE
    refine qF (qAv (zHa (qB e1)) ?_)
    have h2:=(h1.oth (v:=.int (m.1:Nat)) (y:="s") (by decide)).oth (v:=.int (m.2:Nat)) (y:="i") (by decide)
    have s2:(((σ.set "m" (.mt m.1 m.2)).set "s" (.int (m.1:Nat))).set "i" (.int (m.2:Nat))).loc.lookup ("s" : PySem.Str)=some (.int (m.1:Nat)):=qA (by decide) qE
    have i2:(((σ.set "m" (.mt m.1 m.2)).set "s" (.int (m.1:Nat))).set "i" (.int (m.2:Nat))).loc.lookup ("i" : PySem.Str)=some (.int (m.2:Nat)):=qE
    show Gd (ex _ _ (((σ.set "m" (.mt m.1 m.2)).set "s" (.int (m.1:Nat))).set "i" (.int (m.2:Nat)))) _
    generalize ((σ.set "m" (.mt m.1 m.2)).set "s" (.int (m.1:Nat))).set "i" (.int (m.2:Nat))=τ at h2 s2 i2 ⊢
    have e:=zGl (qSr hT h2 (qB s2))
    by_cases hb:((m.1:Nat):Int) < bar
    ·rw [if_pos hb] at hm
     rw [decide_eq_true hb] at e
     exact qJ (t:=false) e (fun q=>by cases q) fun _=>qG ⟨_,_,h2,i2,hm⟩
    ·rw [if_neg hb] at hm
     rw [decide_eq_false hb] at e
     exact qJ (t:=true) e (fun _=>gd_sasg (qB s2) (qG (qG ⟨_,_,h2.setp,qA (by decide) i2,hm⟩))) fun q=>by cases q
  ·cases m with
   | some m=>cases q
   | none=>cases hm; exact qG ⟨rfl,h.oth (by decide)⟩
theorem qWy {r:Option Nat} (hT:Ask pp n H vt bar) (hP:PO H k d fs) (hc:fs.lookup ("code" : PySem.Str)=some (.str x)) (hr:findF x bar=some r) :
  ∃ σ',(T pp (n+1)).app (.top (.ref 169)) [.ref k,vt] H=.ok (posV r) σ'∧σ'.toHp=H:=by
 have main:Gd (ex qFp (T pp n) (entry ((["self", "is_char_in_string"]:List PySem.Str).zip [.ref k,vt]) H)) fun f σ'=>f=.ret (posV r)∧σ'.toHp=H:=by
  have h1:(entry ((["self", "is_char_in_string"]:List PySem.Str).zip [.ref k,vt]) H).loc.lookup ("self" : PySem.Str)=some (.ref k):=rfl
  have h2:(entry ((["self", "is_char_in_string"]:List PySem.Str).zip [.ref k,vt]) H).loc.lookup ("is_char_in_string" : PySem.Str)=some vt:=rfl
  have h3:(entry ((["self", "is_char_in_string"]:List PySem.Str).zip [.ref k,vt]) H).toHp=H:=rfl
  generalize entry ((["self", "is_char_in_string"]:List PySem.Str).zip [.ref k,vt]) H=σ at h1 h2 h3 ⊢
  rw [zFc]
  refine qF (qAv (qDf (qD (zR (qB h1) (by rw [h3]; exact hP.fld bT (by decide) hc rfl)) (qD rfl rfl)) (by show 2≤sizeLine; decide)) ?_)
  have f1:Fr x vt H .none ((σ.set "code" (.str x)).set "pos" .none):=⟨qA (by decide) qE,qA (by decide) (qA (by decide) h2),qE,h3⟩
  show Gd (ex _ _ ((σ.set "code" (.str x)).set "pos" .none)) _
  generalize (σ.set "code" (.str x)).set "pos" .none=τ at f1 ⊢
  refine gd_sasg (uF bT f1.code) ?_
  have f2:=f1.oth (v:=.int (x.length:Nat)) (y:="limit") (by decide)
  have l2:(τ.set "limit" (.int (x.length:Nat))).loc.lookup ("limit" : PySem.Str)=some (.int (x.length:Nat)):=qE
  generalize τ.set "limit" (.int (x.length:Nat))=ρ at f2 l2 ⊢
  obtain ⟨o,ho,hr⟩:=Option.bind_eq_some_iff.mp hr
  refine qF ((qOj hT f2 l2 ho).mono fun f σ' w=>?_)
  obtain ⟨rfl,w⟩:=w
  cases o with
  | none =>
   replace hr:(skF x []).map (fun r=>r.bind fun m=>if ((m.1:Nat):Int) < bar then none else some m.1)=some r:=hr
   obtain ⟨m,hs,rfl⟩:=Option.map_eq_some_iff.mp hr
   refine qJ (t:=true) (kN (qB w.pos) (show ev (T pp n).toCx .none σ'=.ok .none σ' from rfl) rfl) (fun _=>?_) fun q=>by cases q
   refine gd_sasg (qSs (qD (qB w.code) rfl) rfl hs) ?_
   have f3:=w.oth (v:=mtV m) (y:="m") (by decide)
   have m3:(σ'.set "m" (mtV m)).loc.lookup ("m" : PySem.Str)=some (mtV m):=qE
   generalize σ'.set "m" (mtV m)=ρ at f3 m3 ⊢
   have last:∀ {o:Option Nat} {τ:St},Fr x vt H (posV o) τ→o=(m.bind fun m=>if ((m.1:Nat):Int) < bar then none else some m.1)→Gd (ex (.seq (.ret (.var "pos")) .nil) (T pp n) τ) (qAp (.seq (.asg "i" (.bin .Add (.var "pos") (.int 1))) (.seq qMz (.seq (.ret (.var "pos")) .nil))) (T pp n) fun f σ'=>f=.ret (posV (m.bind fun m=>if ((m.1:Nat):Int) < bar then none else some m.1))∧σ'.toHp=H):=by
    intro o τ f e
    subst e
    exact qF (xN (qB f.pos) ⟨rfl,f.hp⟩)
   refine qUz hT f3 m3 (fun q hq hb=>?_) fun hq=>?_
   ·subst hq
    exact qG (last (o:=some q.1) f3.setp (by show _=if _ then _ else _; rw [if_neg hb]))
   ·refine last (o:=none) f3 ?_
    rcases hq with rfl | ⟨q,rfl,hb⟩
    ·rfl
    ·show _=if _ then _ else _; rw [if_pos hb]
  | some p =>
   replace hr:(qBs x bar 1000 ((p:Nat)+1) p).map some=some r:=hr
   obtain ⟨R,hm,rfl⟩:=Option.map_eq_some_iff.mp hr
   refine qJ (t:=false) (kN (qB w.pos) (show ev (T pp n).toCx .none σ'=.ok .none σ' from rfl) rfl) (fun q=>by cases q) fun _=>?_
   refine gd_sasg (zG (qB w.pos) (show ev (T pp n).toCx (.int 1) σ'=.ok (.int 1) σ' from rfl)) ?_
   refine qF ((qVr hT (w.oth (v:=.int ((p:Nat)+1)) (y:="i") (by decide)) qE hm).mono fun f σ' w=>?_)
   obtain ⟨rfl,w⟩:=w
   exact qF (xN (qB w.pos) ⟨rfl,w.hp⟩)
 obtain ⟨f,σ',e,rfl,w⟩:=main
 refine ⟨σ',?_,w⟩
 rw [qV rfl (by decide)]
 exact zJ (by rfl) rfl e rfl
end
noncomputable def zKv:X:=.cmp .Lt (.var "place") (.cv "bar")
theorem zGb {ps:List PySem.Str} {x:X} {cs:List (PySem.Str×Nat)} {args:List V}:∀ n,(T pp (n+1)).app (.clo ps x cs) args H=yG ps x cs (T pp n).toCx args H
 | 0=>rfl
 | _+1=>rfl
theorem qTj {b:Nat} {bar:Int} {cs:List (PySem.Str×Nat)} (hb:H.obj b=some (.cell (some (.int bar)))) (hcs:cs.lookup ("bar" : PySem.Str)=some b):Ask pp (n+1) H (.clo ["place"] zKv cs) bar:=by
 intro p
 refine ⟨⟨H,[("place", .int (p:Nat))],cs,none⟩,?_,rfl⟩
 rw [zGb]
 show (if (1:Nat)=1 then ev (T pp n).toCx zKv ⟨H,[("place", .int (p:Nat))],cs,none⟩ else .bad)=_
 rw [if_pos rfl]
 refine qGf (qB rfl) ?_
 rw [qXg]
 show (match cs.lookup ("bar" : PySem.Str) with | some k=>(match H.obj k with | some (.cell (some v))=>Rs.ok v _ | _=>.bad) | Option.none=>.bad)=_
 rw [hcs]
 show (match H.obj b with | some (.cell (some v))=>Rs.ok v _ | _=>.bad)=_
 rw [hb]
theorem qBa {v:V} {all:List V} {f:V→St→Rs (Option V)} {g:V→Option V} {H:Hp} (hi:xL H v=some all):∀ {l:List V} {σ:St},σ.toHp=H→(∀ y∈l,∀ σ:St,σ.toHp=H→∃ σ',f y σ=.ok (g y) σ'∧σ'.toHp=H)→∃ σ',turns v all f l σ=.ok (l.filterMap g) σ'∧σ'.toHp=H
 | [],σ,hσ,_=>⟨σ,by unfold turns; rw [if_pos (by rw [hσ]; exact hi)]; rfl,hσ⟩
 | y::r,σ,hσ,h=>by
  obtain ⟨σ1,e1,h1⟩:=h y (.head _) σ hσ
  obtain ⟨σ2,e2,h2⟩:=qBa hi (l:=r) h1 fun z hz=>h z (.tail _ hz)
  refine ⟨σ2,?_,h2⟩
  unfold turns
  rw [if_pos (by rw [hσ]; exact hi),e1]
  show (turns v all f r σ1).bind _=_
  rw [e2]
  show Rs.ok _ _=_
  rw [List.filterMap_cons]
  cases g y <;> rfl
theorem qSu {cx:Cx} (hc:cx.calm=false) {elt it cond:X} {x:PySem.Str} {vi:V} {xs:List V} (g:V→Option V) (hi:ev cx it σ=.ok vi σ) (hx:xL σ.toHp vi=some xs)
  (hg:∀ y∈xs,(ev cx cond ⟨σ.toHp,[(x,y)],σ.cel,none⟩).bind (fun b σ₃=>qAc b σ₃ (ev cx elt))=.ok (g y) ⟨σ.toHp,[(x,y)],σ.cel,none⟩) (hn:(xs.filterMap g).length≤sizeLine) :
  ev cx (.comp elt x it cond) σ=.ok (.list (xs.filterMap g)) σ:=by
 obtain ⟨σ2,e2,h2⟩:=qBa (f:=fun v σ₂=>(ev cx cond { σ₂ with loc:=[(x,v)],cel:=σ.cel,tbl:=none }).bind fun b σ₃=>qAc b σ₃ (ev cx elt)) (g:=g) hx (l:=xs) (σ:=σ) rfl (fun y hy σ' h'=>⟨⟨σ.toHp,[(x,y)],σ.cel,none⟩,by
  have:({ σ' with loc:=[(x,y)],cel:=σ.cel,tbl:=none }:St)=⟨σ.toHp,[(x,y)],σ.cel,none⟩:=by rw [← h']
  show (ev cx cond { σ' with loc:=[(x,y)],cel:=σ.cel,tbl:=none }).bind _=_
  rw [this]; exact hg y hy,rfl⟩)
 rw [qXh,if_neg (by rw [hc]; decide),Rs.bind_ok hi,hx]
 show (turns vi xs _ xs σ).bind _=_
 rw [e2]
 show fits _ (Rs.ok _ { σ with toHp:=σ2.toHp })=_
 unfold fits
 rw [if_pos hn,h2]
theorem qMf {cx:Cx} (hc:cx.calm=false) {elt it:X} {x:PySem.Str} {vi:V} {xs:List V} (g:V→V) (hi:ev cx it σ=.ok vi σ) (hx:xL σ.toHp vi=some xs)
  (hg:∀ y∈xs,ev cx elt ⟨σ.toHp,[(x,y)],σ.cel,none⟩=.ok (g y) ⟨σ.toHp,[(x,y)],σ.cel,none⟩) (hn:xs.length≤sizeLine) :
  ev cx (.comp elt x it (.bool true)) σ=.ok (.list (xs.map g)) σ:=by
 have h:=qSu hc (elt:=elt) (cond:=.bool true) (fun y=>some (g y)) hi hx (fun y hy=>by
  show (ev cx elt _).bind _=_
  rw [hg y hy]; rfl) (by rw [List.filterMap_eq_map']; rw [List.length_map]; exact hn)
 rw [List.filterMap_eq_map'] at h
 exact h
end
noncomputable def qUn:List Nat→List Nat→List (List Nat)
 | _,[]=>[]
 | a,c::l=>if c=10 then a::qUn [] l else qUn (a++[c]) l
noncomputable def Tx.flat (ls:List (List Nat)):List Nat:=ls.flatMap (·++[10])
noncomputable def Tx.txt (ls:List (List Nat)):PySem.Str:=⟨(Tx.flat ls).toArray⟩
noncomputable def Tx.stA (ls:List (List Nat)) (k:Nat):Nat:=(Tx.flat (ls.take k)).length
noncomputable def zF (z:PySem.Str):List (List Nat):=qUn [] z.cps.toList
noncomputable def sT (l:List Nat):PySem.Str:=⟨l.toArray⟩
noncomputable def rowsT (z:PySem.Str):List PySem.Str:=(zF z).map sT
noncomputable def xH (z:PySem.Str):List PySem.Str:=(zF z).map fun l=>sT (l++[10])
noncomputable def words4:List PySem.Str:=["def f:", "  return (1,", "try:", "else"]
noncomputable def qOm (rs:List PySem.Str) (k:Nat):Int:=((rs.take k).map fun r=>((r.length:Nat):Int)+1).sum
noncomputable def placesN (rs:List PySem.Str):List Int:=(List.range rs.length).filterMap fun k=>if words4.contains (rs.getD k "")=true then some (qOm rs k) else none
noncomputable def placeN (rs:List PySem.Str) (bar:Int):Option Int:=if placesN rs≠[]∧(placesN rs).headD 0 ≥ bar then (placesN rs).getLast? else none
noncomputable def qCb (z:PySem.Str) (bar:Int):Option (Option Int):=(findF z bar).map fun r=>r.map fun p=>(p:Int)
noncomputable def vE (z:PySem.Str) (i:Nat):PySem.Str:=Tx.txt ((zF z).drop i)
noncomputable def zKt (z:PySem.Str) (i:Nat):Bool :=
 codes.contains (vE z i) && decide (Txt.join "" ((xH z).drop i)=vE z i) && JoinOk "" ((xH z).drop i) && wD (vE z i) &&
 decide ((Txt.join "" ((xH z).take i)).length=Tx.stA (zF z) i) && JoinOk "" ((xH z).take i) && wD (Txt.join "" ((xH z).take i)) &&
 (if Tx.stA (zF z) i=0 then decide (vE z i=z) else decide (xU z ((Tx.stA (zF z) i:Nat) - 1:Int)=some "\n") && decide (cut z.cps.toList (some ((Tx.stA (zF z) i:Nat):Int)) none=(vE z i).cps.toList))
noncomputable def zGu (z:PySem.Str):Bool :=
 decide (Tx.txt (zF z)=z) && decide ((zF z).length≤8) && decide (z.length≤60) && z.cps.toList.all (fun c=>decide (c < 128)) && decide (z.cps.toList=[]∨z.cps.toList.getLast? = some 10) &&
 kR z "\n" && decide (Txt.split z "\n" = rowsT z++[("" : PySem.Str)]) && (decide (qCb z 0=some (placeN (rowsT z) 0)) && decide (qCb z 1=some (placeN (rowsT z) 1))) && (List.range ((zF z).length+1)).all (zKt z)
theorem qYf:codes.all zGu=true:=by decide +kernel
noncomputable def bads:List PySem.Str:=["a", "\n ", "x:\n\r", ":"]
noncomputable def texts6:List PySem.Str:=["def f:\n  return (1,\n", "x = '''\ntry:\n", "a\nif b:\n", "", "y = \\\n", "else\n(')')\n\n#c\n"]
theorem qTh:texts6.all (fun t=>codes.contains t)=true:=by decide +kernel
theorem zFw:bads.all (fun b=>decide (0 < b.length) && decide (b.length≤60) && (match b.cps.toList.getLast? with | some c=>c != 10 | none=>false))=true:=by decide +kernel
structure CodeOk (z:PySem.Str):Prop where
 txt:Tx.txt (zF z)=z
 few:(zF z).length≤8
 small:small z
 len:z.length≤60
 nl:qZe z
 fits:kR z "\n" = true
 split:Txt.split z "\n" = rowsT z++[("" : PySem.Str)]
 f0:qCb z 0=some (placeN (rowsT z) 0)
 f1:qCb z 1=some (placeN (rowsT z) 1)
 cut:∀ i,i≤(zF z).length→zKt z i=true
 tell:qTl z=true
theorem uC {z:PySem.Str} (h:z∈codes):CodeOk z:=by
 have h1:=List.all_eq_true.mp qYf z h
 have h2:=List.all_eq_true.mp qTk z h
 unfold zGu at h1
 simp only [Bool.and_eq_true,decide_eq_true_eq] at h1
 obtain ⟨⟨⟨⟨⟨⟨⟨⟨a1,a3⟩,a4⟩,a5⟩,a6⟩,a7⟩,a8⟩,a9,a10⟩,a11⟩:=h1
 refine ⟨a1,a3,⟨fun c hc=>?_,Nat.le_trans a4 (by decide)⟩,a4,?_,a7,a8,a9,a10,fun i hi=>List.all_eq_true.mp a11 i (List.mem_range.mpr (Nat.lt_succ_of_le hi)),h2⟩
 ·exact of_decide_eq_true (List.all_eq_true.mp a5 c hc)
 ·rcases a6 with a6 | a6
  ·exact .inl a6
  ·obtain ⟨l,e⟩:=List.getLast?_eq_some_iff.mp a6
   exact .inr ⟨l,e⟩
section
variable {pp:Params} {n k d:Nat} {H:Hp} {fs:qX} {σ:St} {z:PySem.Str}
noncomputable def fs2 (iw tw:Int):qX:=[("indentwidth", .int iw),("tabwidth", .int tw)]
theorem fs2_I {iw tw:Int}:FsI (fs2 iw tw) iw tw:=⟨⟨2,Nat.le_refl _,by decide,by show (["indentwidth", "tabwidth"]:List PySem.Str)=_; decide +kernel⟩,rfl,rfl⟩
theorem qWh {k d:Nat} {iw tw:Int} (hP:PO H k d []):∃ σ',qY rows09 (T pp n) 155 [.ref k,.int iw,.int tw] H=.ok .none σ'∧σ'.toHp=hput H d (.dict (fs2 iw tw)):=by
 have main:Gd (ex qFh (T pp n) (entry ((["self", "indentwidth", "tabwidth"]:List PySem.Str).zip [.ref k,.int iw,.int tw]) H)) fun f σ'=>f=.next∧σ'.toHp=hput H d (.dict (fs2 iw tw)):=by
  have h1:(entry ((["self", "indentwidth", "tabwidth"]:List PySem.Str).zip [.ref k,.int iw,.int tw]) H).loc.lookup ("self" : PySem.Str)=some (.ref k):=rfl
  have h2:(entry ((["self", "indentwidth", "tabwidth"]:List PySem.Str).zip [.ref k,.int iw,.int tw]) H).loc.lookup ("indentwidth" : PySem.Str)=some (.int iw):=rfl
  have h3:(entry ((["self", "indentwidth", "tabwidth"]:List PySem.Str).zip [.ref k,.int iw,.int tw]) H).loc.lookup ("tabwidth" : PySem.Str)=some (.int tw):=rfl
  have h4:(entry ((["self", "indentwidth", "tabwidth"]:List PySem.Str).zip [.ref k,.int iw,.int tw]) H).toHp=H:=rfl
  generalize entry ((["self", "indentwidth", "tabwidth"]:List PySem.Str).zip [.ref k,.int iw,.int tw]) H=σ at h1 h2 h3 h4 ⊢
  rw [← h4] at hP ⊢
  unfold qFh
  refine qF (xX (qB h2) (qB h1) (hP.setA bT (by decide) (Nat.zero_le _)) ?_)
  have h5:({ σ with toHp:=hput σ.toHp d (.dict (setF "indentwidth" (.int iw) [])) }:St).loc.lookup ("self" : PySem.Str)=some (.ref k):=h1
  have h6:({ σ with toHp:=hput σ.toHp d (.dict (setF "indentwidth" (.int iw) [])) }:St).loc.lookup ("tabwidth" : PySem.Str)=some (.int tw):=h3
  refine qF (xX (qB h6) (qB h5) ((hP.put (fs':=setF "indentwidth" (.int iw) [])).setA bT (by decide) (by show 1≤100; decide)) (qG ⟨rfl,?_⟩))
  exact qHx
 obtain ⟨f,σ',e,rfl,e2⟩:=main
 exact ⟨σ',zJ (by rfl) rfl e rfl,e2⟩
theorem qVv {iw tw:Int}:∃ σ',(T pp (n+2)).app (.top (.ref 249)) [.int iw,.int tw] H=.ok (.ref (H.nxt+1)) σ'∧PO σ'.toHp (H.nxt+1) H.nxt (fs2 iw tw)∧σ'.nxt=H.nxt+2∧∀ i,i < H.nxt→σ'.obj i=H.obj i:=by
 have h0:PO ((H.add (.dict [])).add (.inst 249 H.nxt)) (H.nxt+1) H.nxt []:=by
  refine ⟨if_pos rfl,?_,Nat.succ_ne_self _⟩
  show (if H.nxt=H.nxt+1 then _ else if H.nxt=H.nxt then _ else _)=_
  rw [if_neg (Nat.succ_ne_self _).symm,if_pos rfl]
 obtain ⟨σ',e1,e2⟩:=qWh (pp:=pp) (n:=n) (iw:=iw) (tw:=tw) h0
 refine ⟨σ',?_,?_⟩
 ·show (if (249:Nat)=63 then vD [.int iw,.int tw] H else (jT 249).elim (qBt (G09 pp) (qY rows09 (T pp n) 155) (qY rows09 (T pp (n+1))) 249 [.int iw,.int tw] H) fun code=>vO code [.int iw,.int tw] H)=_
  have hx:jT 249=none:=by rfl
  rw [if_neg (by decide),hx]
  show qBt (G09 pp) (qY rows09 (T pp n) 155) (qY rows09 (T pp (n+1))) 249 [.int iw,.int tw] H=_
  unfold qBt
  refine (if_pos rfl).trans ?_
  unfold qHn
  rw [show (G09 pp).C=249 from rfl,e1]
 ·rw [e2]
  refine ⟨h0.put,rfl,fun i hi=>?_⟩
  rw [zK (Nat.ne_of_lt hi)]
  show (if i=H.nxt+1 then _ else if i=H.nxt then _ else H.obj i)=_
  rw [if_neg (Nat.ne_of_lt (Nat.lt_succ_of_lt hi)),if_neg (Nat.ne_of_lt hi)]
structure Par0 (H:Hp) (k d:Nat) (fs:qX) (z:PySem.Str):Prop where
 po:PO H k d fs
 k:k < H.nxt
 d:d < H.nxt
 fs:FsP fs 4 8 z 0
noncomputable def Same (H H':Hp):Prop:=H.nxt≤H'.nxt∧∀ i,i < H.nxt→H'.obj i=H.obj i
theorem Same.trans {H H' H'':Hp} (h:Same H H') (h':Same H' H''):Same H H'':=⟨Nat.le_trans h.1 h'.1,fun i hi=>(h'.2 i (Nat.lt_of_lt_of_le hi h.1)).trans (h.2 i hi)⟩
theorem Same.refl {H:Hp}:Same H H:=⟨Nat.le_refl _,fun _ _=>rfl⟩
theorem qEb (hz:CodeOk z):∃ σ',(T pp (n+3)).app (.top (.ref 267)) [.str z] H=.ok (.ref (H.nxt+1)) σ'∧Same H σ'.toHp∧∃ fs,Par0 σ'.toHp (H.nxt+1) H.nxt fs z:=by
 have main:Gd (ex qAw (T pp (n+2)) (entry ((["code"]:List PySem.Str).zip [.str z]) H)) fun f σ'=>f=.ret (.ref (H.nxt+1))∧Same H σ'.toHp∧∃ fs,Par0 σ'.toHp (H.nxt+1) H.nxt fs z:=by
  have h1:(entry ((["code"]:List PySem.Str).zip [.str z]) H).loc.lookup ("code" : PySem.Str)=some (.str z):=rfl
  have h2:(entry ((["code"]:List PySem.Str).zip [.str z]) H).toHp=H:=rfl
  generalize entry ((["code"]:List PySem.Str).zip [.str z]) H=σ at h1 h2 ⊢
  subst h2
  obtain ⟨σ1,a1,a2,a3,a4⟩:=qVv (pp:=pp) (n:=n) (H:=σ.toHp) (iw:=4) (tw:=8)
  unfold qAw
  refine gd_sasg (zN (qP (v:=.top (.ref 249)) (by rw [bT.gl]; rfl)) (qD rfl (qD rfl rfl)) a1) ?_
  have b1:=@qA ({ σ with toHp:=σ1.toHp }:St) "parser" "code" (.ref (σ.nxt+1)) _ (by decide) h1
  have b2:=@qE ({ σ with toHp:=σ1.toHp }:St) "parser" (.ref (σ.nxt+1))
  generalize hσ2:({ σ with toHp:=σ1.toHp }:St).set "parser" (.ref (σ.nxt+1))=σ2 at b1 b2 ⊢
  have b3:σ2.toHp=σ1.toHp:=by rw [← hσ2]; rfl
  rw [← b3] at a2
  obtain ⟨σ3,c1,c2⟩:=uY (pp:=pp) (n:=n+1) (H:=σ2.toHp) hz.small.2 hz.nl a2 fs2_I
  refine zQ (zD (qB b2) (a2.get bT (by rfl) (by rfl)) (qD (qB b1) rfl) c1) ?_
  refine qF (xN (qB (σ:={ σ2 with toHp:=σ3.toHp }) b2) ⟨rfl,?_,setF "study_level" (.int 0) (setF "code" (.str z) (fs2 4 8)),?_⟩)
  ·refine ⟨?_,fun i hi=>?_⟩
   ·show σ.nxt≤σ3.nxt
    rw [c2]; show σ.nxt≤σ2.nxt
    rw [b3,a3]; exact Nat.le_add_right _ _
   ·show σ3.obj i=_
    rw [c2,zK (Nat.ne_of_lt hi),b3]; exact a4 i hi
  ·have hn:σ3.nxt=σ.nxt+2:=by rw [c2]; show σ2.nxt=_; rw [b3,a3]
   refine ⟨?_,?_,?_,fs2_I.set z⟩
   ·show PO σ3.toHp _ _ _
    rw [c2]; exact a2.put
   ·show _ < σ3.nxt
    rw [hn]; exact Nat.lt_succ_self _
   ·show _ < σ3.nxt
    rw [hn]; exact Nat.lt_succ_of_lt (Nat.lt_succ_self _)
 obtain ⟨f,σ',e,rfl,w⟩:=main
 refine ⟨σ',?_,w⟩
 rw [qV rfl (by decide)]
 exact zJ (by rfl) rfl e rfl
end
section
variable {pp:Params} {n k d:Nat} {H:Hp} {fs:qX} {σ σ₁:St} {z:PySem.Str} {Q:Fl→St→Prop}
theorem qSl (hz:CodeOk z) (hP:PO H k d fs) (hk:k < H.nxt) (hd:d < H.nxt) (hF:FsI fs 4 8):∃ σ',(T pp (n+1)).app (.top (.ref 162)) [.ref k,.str z] H=.ok .none σ'∧σ'.nxt=H.nxt∧(∀ i,i≠d→σ'.obj i=H.obj i)∧∃ fs',Par0 σ'.toHp k d fs' z:=by
 obtain ⟨σ3,c1,c2⟩:=uY (pp:=pp) (n:=n) (H:=H) hz.small.2 hz.nl hP hF
 refine ⟨σ3,c1,by rw [c2]; rfl,fun i hi=>by rw [c2]; exact zK hi,setF "study_level" (.int 0) (setF "code" (.str z) fs),?_⟩
 exact ⟨by rw [c2]; exact hP.put,by rw [c2]; exact hk,by rw [c2]; exact hd,hF.set z⟩
theorem zEt {cx:Sx} {o as:X} {m:PySem.Str} {vo:V} {pr:V×List V} {xs:List V} {H':Hp} (hc:cx.calm=false) (hi:(cx.gl "AssertionError").any asT=true) (ho:ev cx.toCx o σ=.ok vo σ) (hg:cx.get vo m σ.toHp=some pr) (ha:ev cx.toCx as σ=.ok (.list xs) σ)
  (hx:cx.exc pr.1 (pr.2++xs) σ.toHp=some H') (h:Q .next { σ with toHp:=H' }):Gd (ex (.tryA o m as) cx σ) Q:=by
 refine ⟨_,_,?_,h⟩
 rw [qXa,if_neg (by rw [hc,hi]; decide),Rs.bind_ok ho,hg]
 show (ev cx.toCx as σ).bind _=_
 rw [Rs.bind_ok ha]
 show zZ ((cx.exc pr.1 (pr.2++xs) σ.toHp).map _)=_
 rw [hx]; rfl
theorem zMj {a:Addr} {args:List V}:∀ n,(T pp (n+1)).exc (.top (.ref a)) args H=qSp x07 (T pp n) a args H
 | 0=>rfl
 | _+1=>rfl
theorem refused {b:PySem.Str} (hb:b∈bads):(T pp (n+1)).exc (.top (.ref 162)) [.ref k,.str b] H=some H:=by
 have h0:=List.all_eq_true.mp zFw b hb
 simp only [Bool.and_eq_true,decide_eq_true_eq] at h0
 obtain ⟨⟨h1,h2⟩,h3⟩:=h0
 obtain ⟨l,c,e,hc⟩:∃ l c,b.cps.toList=l++[c]∧c≠10:=by
  cases hq:b.cps.toList.getLast? with
  | none=>rw [hq] at h3; cases h3
  | some c =>
   rw [hq] at h3
   obtain ⟨l,e⟩:=List.getLast?_eq_some_iff.mp hq
   exact ⟨l,c,e,by simpa using h3⟩
 rw [zMj]
 show (if (162:Nat)=162 then qCe x07.ps x07.e (T pp n) [.ref k,.str b] H else none)=_
 rw [if_pos rfl]
 unfold qCe
 rw [if_pos (show ([.ref k,.str b]:List V).length=x07.ps.length from rfl)]
 have h5:(entry (x07.ps.zip [.ref k,.str b]) H).loc.lookup ("s" : PySem.Str)=some (.str b):=rfl
 have h6:(entry (x07.ps.zip [.ref k,.str b]) H).toHp=H:=rfl
 generalize entry (x07.ps.zip [.ref k,.str b]) H=σ at h5 h6 ⊢
 have e1:=jN (uF (bT (pp:=pp) (n:=n)) h5) (show ev (T pp n).toCx (.int 0) σ=.ok (.int 0) σ from rfl)
 have hq:(((b.length:Nat):Int) == 0)=false:=by simpa using (Nat.pos_iff_ne_zero.mp h1)
 rw [hq] at e1
 have e2:ev (T pp n).toCx (.cmp .Eq (.idx (.var "s") (.neg (.int 1))) (.str "\n")) σ=.ok (.bool false) σ:=by
  rw [yK (xZ (qB h5) uV (qDy (Nat.le_trans h2 (by decide)) e)) rfl,nlS]
  have:([c] == [10])=false:=by simpa using hc
  exact congrArg (fun q=>Rs.ok (V.bool q) σ) this
 have e3:ev (T pp n).toCx x07.e σ=.ok (.bool false) σ:=qJa e1 fun _=>e2
 rw [e3]
 show (if zT σ.toHp (.bool false)=some false then some σ.toHp else none)=_
 rw [if_pos (show zT σ.toHp (.bool false)=some false from rfl),h6]
theorem qWj {x c:PySem.Str} {i:Int} (h:xU x i=some c):jK H (.str x) (.int i)=.ok (.str c):=by
 unfold xU at h
 by_cases hf:xO i=true
 ·rw [if_pos hf] at h
  obtain ⟨a,h1,rfl⟩:=Option.map_eq_some_iff.mp h
  show (if xO i=true then ((seqIndex? i x.length).bind (x.cps[·]?)).elim Ov.bad fun c=>.ok (.str ⟨#[c]⟩) else .bad)=_
  rw [if_pos hf,h1]; rfl
 ·rw [if_neg hf] at h; cases h
theorem qHb {x:PySem.Str} {i:Int}:yA H (.str x) (.int i) .none=.ok (.str ⟨(cut x.cps.toList (some i) none).toArray⟩):=rfl
theorem zAp {l:List Nat} {x:PySem.Str} (h:l=x.cps.toList):(⟨l.toArray⟩:PySem.Str)=x:=by
 subst h
 cases x; simp
structure Cut (z:PySem.Str) (i:Nat):Prop where
 mem:vE z i∈codes
 j2:yW (.str "") (.list (((xH z).drop i).map .str))=fun H=>okH (.str (vE z i)) H
 j1:∃ y,y.length=Tx.stA (zF z) i∧yW (.str "") (.list (((xH z).take i).map .str))=fun H=>okH (.str y) H
 lo:if Tx.stA (zF z) i=0 then vE z i=z else xU z ((Tx.stA (zF z) i:Nat) - 1:Int)=some "\n" ∧ cut z.cps.toList (some ((Tx.stA (zF z) i:Nat):Int)) none=(vE z i).cps.toList
theorem qGv:∀ l:List PySem.Str,uG (l.map .str)=some l
 | []=>rfl
 | a::l=>by
  show (uG (l.map .str)).map (a::·)=_
  rw [qGv l]; rfl
theorem qNh {l:List PySem.Str} {y:PySem.Str} (h1:Txt.join "" l=y) (h2:JoinOk "" l=true) (h3:wD y=true):yW (.str "") (.list (l.map .str))=fun H=>okH (.str y) H:=by
 subst h1
 funext H
 show (uG (l.map .str)).elim Rs.bad (fun ts=>if (JoinOk "" ts && wD (Txt.join "" ts))=true then okH (.str (Txt.join "" ts)) H else .bad)=_
 rw [qGv]
 exact if_pos (by rw [h2,h3]; rfl)
theorem CodeOk.at (hz:CodeOk z) {i:Nat} (hi:i≤(zF z).length):Cut z i:=by
 have h:=hz.cut i hi
 unfold zKt at h
 simp only [Bool.and_eq_true,decide_eq_true_eq] at h
 obtain ⟨⟨⟨⟨⟨⟨⟨a1,a2⟩,a3⟩,a4⟩,a5⟩,a6⟩,a7⟩,a8⟩:=h
 refine ⟨by simpa using a1,qNh a2 a3 a4,⟨_,a5,qNh rfl a6 a7⟩,?_⟩
 by_cases h0:Tx.stA (zF z) i=0
 ·rw [if_pos h0] at a8 ⊢; exact of_decide_eq_true a8
 ·rw [if_neg h0] at a8 ⊢
  rw [Bool.and_eq_true] at a8
  exact ⟨of_decide_eq_true a8.1,of_decide_eq_true a8.2⟩
theorem qPq {i:Nat} (hC:Cut z i) (hP:PO H k d fs) {m:Nat} (hk:Kx fs m) (hm:3≤m) (hc:fs.lookup ("code" : PySem.Str)=some (.str z)) :
  ∃ σ',(T pp (n+1)).app (.top (.ref 176)) [.ref k,.int (Tx.stA (zF z) i:Nat)] H=.ok .none σ'∧∃ fs',σ'.toHp=hput H d (.dict fs')∧Kx fs' m∧fs'.lookup ("code" : PySem.Str)=some (.str (vE z i))∧∀ f,(f == ("code" : PySem.Str))=false→fs'.lookup f=fs.lookup f:=by
 have main:Gd (ex qAr (T pp n) (entry ((["self", "lo"]:List PySem.Str).zip [.ref k,.int (Tx.stA (zF z) i:Nat)]) H)) fun f σ'=>f=.next∧∃ fs',σ'.toHp=hput H d (.dict fs')∧Kx fs' m∧fs'.lookup ("code" : PySem.Str)=some (.str (vE z i))∧∀ f,(f == ("code" : PySem.Str))=false→fs'.lookup f=fs.lookup f:=by
  have hC':=hC.lo
  generalize Tx.stA (zF z) i=L at hC' ⊢
  have h1:(entry ((["self", "lo"]:List PySem.Str).zip [.ref k,.int (L:Nat)]) H).loc.lookup ("self" : PySem.Str)=some (.ref k):=rfl
  have h2:(entry ((["self", "lo"]:List PySem.Str).zip [.ref k,.int (L:Nat)]) H).loc.lookup ("lo" : PySem.Str)=some (.int (L:Nat)):=rfl
  have h3:(entry ((["self", "lo"]:List PySem.Str).zip [.ref k,.int (L:Nat)]) H).toHp=H:=rfl
  generalize entry ((["self", "lo"]:List PySem.Str).zip [.ref k,.int (L:Nat)]) H=σ at h1 h2 h3 ⊢
  subst h3
  have ec:ev (T pp n).toCx (.attr (.var "self") "code") σ=.ok (.str z) σ:=zR (qB h1) (hP.fld bT (by decide) hc rfl)
  have e1:=jN (qB (cx:=(T pp n).toCx) h2) (show ev (T pp n).toCx (.int 0) σ=.ok (.int 0) σ from rfl)
  unfold qAr
  by_cases h0:L=0
  ·rw [if_pos h0] at hC'
   subst h0
   refine qW (qJa (p:=true) (q:=true) e1 fun q=>by cases q) ?_
   have e5:=qMe (qB (cx:=(T pp n).toCx) h2) (show ev (T pp n).toCx (.int 0) σ=.ok (.int 0) σ from rfl)
   rw [show decide (((0:Nat):Int) > 0)=false from rfl] at e5
   refine qJ (t:=false) e5 (fun q=>by cases q) fun _=>qG ⟨rfl,fs,(uO hP.dict).symm,hk,by rw [hC']; exact hc,fun _ _=>rfl⟩
  ·rw [if_neg h0] at hC'
   obtain ⟨q1,q2⟩:=hC'
   have hq:(((L:Nat):Int) == 0)=false:=by simpa using h0
   rw [hq] at e1
   refine qW (qJa (q:=true) e1 fun _=>?_) ?_
   ·rw [yK (xZ ec (jM (qB h2) rfl) (qWj q1)) rfl]; rfl
   ·have hgt:decide (((L:Nat):Int) > 0)=true:=decide_eq_true (by lia)
    have e5:=qMe (qB (cx:=(T pp n).toCx) h2) (show ev (T pp n).toCx (.int 0) σ=.ok (.int 0) σ from rfl)
    rw [hgt] at e5
    refine qJ e5 (fun _=>?_) (fun q=>by cases q)
    have e6:ev (T pp n).toCx (.slc (.attr (.var "self") "code") (.var "lo") .none) σ=.ok (.str (vE z i)) σ:=by
     refine yJ ec (qB h2) rfl ?_
     rw [qHb,zAp q2]
    refine qF (xX e6 (qB h1) (hP.setA bT (by decide) hk.len) (qG (qG ⟨rfl,_,rfl,?_,zB,fun f hf=>qC hf⟩)))
    have:=hk.set (i:=2) (f:="code") (v:=.str (vE z i)) (by decide) (by lia) (by decide +kernel)
    rw [Nat.max_eq_left hm] at this
    exact this
 obtain ⟨f,σ',e,rfl,w⟩:=main
 refine ⟨σ',?_,w⟩
 rw [qV rfl (by decide)]
 exact zJ (by rfl) rfl e rfl
end
section
variable {pp:Params} {n k d j:Nat} {H:Hp} {fs:qX} {σ σ₁:St} {y z:PySem.Str} {t:Tell}
structure Par2 (H:Hp) (k d:Nat) (fs:qX) (y:PySem.Str) (t:Tell) (j:Nat):Prop where
 po:PO H k d fs
 kn:k < H.nxt
 dn:d < H.nxt
 kx:Kx fs 11
 iw:fs.lookup ("indentwidth" : PySem.Str)=some (.int 4)
 tw:fs.lookup ("tabwidth" : PySem.Str)=some (.int 8)
 code:fs.lookup ("code" : PySem.Str)=some (.str y)
 lev:fs.lookup ("study_level" : PySem.Str)=some (.int 2)
 good:fs.lookup ("goodlines" : PySem.Str)=some (.ref j)
 cont:fs.lookup ("continuation" : PySem.Str)=some (.int (t.c:Nat))
 last:fs.lookup ("lastch" : PySem.Str)=some (.str t.s.last)
 brk:fs.lookup ("stmt_bracketing" : PySem.Str)=some (.tup (kL t.s.brk))
 gl:H.obj j=some (.list (qI t.gl))
 jd:j≠d
 jn:j < H.nxt
theorem Par2.toI (h:Par2 H k d fs y t j):FsI fs 4 8:=⟨h.kx.less (by decide),h.iw,h.tw⟩
noncomputable def kH (t:Tell) (j:Nat):V:=.list [.int (t.c:Nat),.bool (decide (t.s.last = ":")),.tup (kL t.s.brk),.ref j]
theorem qJq (hP:PO H k d fs) (hl:fs.lookup ("study_level" : PySem.Str)=some (.int 2)):∃ σ',(T pp (n+1)).app (.top (.ref 183)) [.ref k] H=.ok .none σ'∧σ'.toHp=H:=by
 have main:Gd (ex kG (T pp n) (entry ((["self"]:List PySem.Str).zip [.ref k]) H)) fun f σ'=>f=.ret .none∧σ'.toHp=H:=by
  have h1:(entry ((["self"]:List PySem.Str).zip [.ref k]) H).loc.lookup ("self" : PySem.Str)=some (.ref k):=rfl
  have h2:(entry ((["self"]:List PySem.Str).zip [.ref k]) H).toHp=H:=rfl
  generalize entry ((["self"]:List PySem.Str).zip [.ref k]) H=σ at h1 h2 ⊢
  subst h2
  unfold kG
  exact qJ (t:=decide ((2:Int) ≥ 1)) (jQ (zR (qB h1) (hP.fld bT (v:=.int 2) (by decide) hl rfl)) rfl) (fun _=>qF (qFl ⟨rfl,rfl⟩)) fun q=>absurd q (by decide)
 obtain ⟨f,σ',e,rfl,w⟩:=main
 refine ⟨σ',?_,w⟩
 rw [qV rfl (by decide)]
 exact zJ (by rfl) rfl e rfl
theorem qBd (hP:PO H k d fs) (hl:fs.lookup ("study_level" : PySem.Str)=some (.int 2)):∃ σ',(T pp (n+1)).app (.top (.ref 197)) [.ref k] H=.ok .none σ'∧σ'.toHp=H:=by
 have main:Gd (ex jS (T pp n) (entry ((["self"]:List PySem.Str).zip [.ref k]) H)) fun f σ'=>f=.ret .none∧σ'.toHp=H:=by
  have h1:(entry ((["self"]:List PySem.Str).zip [.ref k]) H).loc.lookup ("self" : PySem.Str)=some (.ref k):=rfl
  have h2:(entry ((["self"]:List PySem.Str).zip [.ref k]) H).toHp=H:=rfl
  generalize entry ((["self"]:List PySem.Str).zip [.ref k]) H=σ at h1 h2 ⊢
  subst h2
  rw [qDk]
  exact qJ (t:=decide ((2:Int) ≥ 2)) (jQ (zR (qB h1) (hP.fld bT (v:=.int 2) (by decide) hl rfl)) rfl) (fun _=>qF (qFl ⟨rfl,rfl⟩)) fun q=>absurd q (by decide)
 obtain ⟨f,σ',e,rfl,w⟩:=main
 refine ⟨σ',?_,w⟩
 rw [qV rfl (by decide)]
 exact zJ (by rfl) rfl e rfl
theorem qWn (h:Par2 H k d fs y t j):∃ σ',(T pp (n+2)).app (.top (.ref 190)) [.ref k] H=.ok (.int (t.c:Nat)) σ'∧σ'.toHp=H:=by
 have main:Gd (ex uP (T pp (n+1)) (entry ((["self"]:List PySem.Str).zip [.ref k]) H)) fun f σ'=>f=.ret (.int (t.c:Nat))∧σ'.toHp=H:=by
  have h1:(entry ((["self"]:List PySem.Str).zip [.ref k]) H).loc.lookup ("self" : PySem.Str)=some (.ref k):=rfl
  have h2:(entry ((["self"]:List PySem.Str).zip [.ref k]) H).toHp=H:=rfl
  generalize entry ((["self"]:List PySem.Str).zip [.ref k]) H=σ at h1 h2 ⊢
  subst h2
  obtain ⟨σ₂,a1,a2⟩:=qJq (pp:=pp) (n:=n) h.po h.lev
  unfold uP
  refine zQ (zD (qB h1) (h.po.get bT (h.kx.meth (by decide)) (by rfl)) (xs:=[]) rfl a1) ?_
  rw [a2]
  exact qF (xN (zR (qB h1) (h.po.fld bT (by decide) h.cont rfl)) ⟨rfl,rfl⟩)
 obtain ⟨f,σ',e,rfl,w⟩:=main
 refine ⟨σ',?_,w⟩
 rw [qV rfl (by decide)]
 exact zJ (by rfl) rfl e rfl
theorem qIp (h:Par2 H k d fs y t j):∃ σ',(T pp (n+2)).app (.top (.ref 246)) [.ref k] H=.ok (.tup (kL t.s.brk)) σ'∧σ'.toHp=H:=by
 have main:Gd (ex qFx (T pp (n+1)) (entry ((["self"]:List PySem.Str).zip [.ref k]) H)) fun f σ'=>f=.ret (.tup (kL t.s.brk))∧σ'.toHp=H:=by
  have h1:(entry ((["self"]:List PySem.Str).zip [.ref k]) H).loc.lookup ("self" : PySem.Str)=some (.ref k):=rfl
  have h2:(entry ((["self"]:List PySem.Str).zip [.ref k]) H).toHp=H:=rfl
  generalize entry ((["self"]:List PySem.Str).zip [.ref k]) H=σ at h1 h2 ⊢
  subst h2
  obtain ⟨σ₂,a1,a2⟩:=qBd (pp:=pp) (n:=n) h.po h.lev
  unfold qFx
  refine zQ (zD (qB h1) (h.po.get bT (h.kx.meth (by decide)) (by rfl)) (xs:=[]) rfl a1) ?_
  rw [a2]
  exact qF (xN (zR (qB h1) (h.po.fld bT (by decide) h.brk rfl)) ⟨rfl,rfl⟩)
 obtain ⟨f,σ',e,rfl,w⟩:=main
 refine ⟨σ',?_,w⟩
 rw [qV rfl (by decide)]
 exact zJ (by rfl) rfl e rfl
theorem qKt (h:Par2 H k d fs y t j):∃ σ',(T pp (n+2)).app (.top (.ref 232)) [.ref k] H=.ok (.bool (decide (t.s.last = ":"))) σ'∧σ'.toHp=H:=by
 have main:Gd (ex vV (T pp (n+1)) (entry ((["self"]:List PySem.Str).zip [.ref k]) H)) fun f σ'=>f=.ret (.bool (decide (t.s.last = ":")))∧σ'.toHp=H:=by
  have h1:(entry ((["self"]:List PySem.Str).zip [.ref k]) H).loc.lookup ("self" : PySem.Str)=some (.ref k):=rfl
  have h2:(entry ((["self"]:List PySem.Str).zip [.ref k]) H).toHp=H:=rfl
  generalize entry ((["self"]:List PySem.Str).zip [.ref k]) H=σ at h1 h2 ⊢
  subst h2
  obtain ⟨σ₂,a1,a2⟩:=qBd (pp:=pp) (n:=n) h.po h.lev
  unfold vV
  refine zQ (zD (qB h1) (h.po.get bT (h.kx.meth (by decide)) (by rfl)) (xs:=[]) rfl a1) ?_
  rw [a2]
  exact qF (xN (qDg (zR (qB h1) (h.po.fld bT (by decide) h.last rfl)) rfl) ⟨rfl,rfl⟩)
 obtain ⟨f,σ',e,rfl,w⟩:=main
 refine ⟨σ',?_,w⟩
 rw [qV rfl (by decide)]
 exact zJ (by rfl) rfl e rfl
theorem qBc (ht:tell z=some t):study (lastp (four (z.cps.toList.map tr12)))=some (t.gl,t.c)∧wL z t.gl=some t.s:=by
 obtain ⟨r,h1,h2⟩:=Option.bind_eq_some_iff.mp ht
 obtain ⟨s,h3,rfl⟩:=Option.map_eq_some_iff.mp h2
 exact ⟨h1,h3⟩
structure Told (z:PySem.Str) (t:Tell):Prop where
 tell:tell z=some t
 two:(qGh z)=(t.c,decide (t.s.last = ":"))
 ne:∀ R,scan 1000 .out (lastp (four (z.cps.toList.map tr12))) ⟨0,0,[0],0⟩=some R→R.gl≠[]
theorem CodeOk.told (hz:CodeOk z):∃ t,Told z t:=by
 have h:=hz.tell
 unfold qTl at h
 cases ht:L09.tell z with
 | none=>rw [ht] at h; cases h
 | some t =>
  rw [ht] at h
  simp only [Bool.and_eq_true,decide_eq_true_eq,beq_iff_eq] at h
  obtain ⟨⟨⟨h1,h2⟩,h3⟩,h4⟩:=h
  refine ⟨t,ht,Prod.ext h1.symm h2.symm,fun R hR hq=>?_⟩
  rw [hR] at h4
  replace h4:(!R.gl.isEmpty)=true:=h4
  rw [hq] at h4; cases h4
theorem Par0.ready (h:Par0 H k d fs z) (hz:CodeOk z) (ht:Told z t):Ready H k d fs 4 8 z t.gl t.c :=
 ⟨h.po,h.k,h.d,h.fs,hz.small,(qBc ht.tell).1,ht.ne⟩
theorem qKs (h:Std H k d 4 8 z t.gl t.c fs) (hS:wL z t.gl=some t.s):∃ σ',(T pp (n+3)).app (.top (.ref 232)) [.ref k] H=.ok (.bool (decide (t.s.last = ":"))) σ'∧Kept H σ'.toHp d∧∃ fs' j,Par2 σ'.toHp k d fs' z t j:=by
 obtain ⟨j0,hF0,_⟩:=h.st
 have main:Gd (ex vV (T pp (n+2)) (entry ((["self"]:List PySem.Str).zip [.ref k]) H)) fun f σ'=>f=.ret (.bool (decide (t.s.last = ":")))∧Kept H σ'.toHp d∧∃ fs' j,Par2 σ'.toHp k d fs' z t j:=by
  have h1:(entry ((["self"]:List PySem.Str).zip [.ref k]) H).loc.lookup ("self" : PySem.Str)=some (.ref k):=rfl
  have h2:(entry ((["self"]:List PySem.Str).zip [.ref k]) H).toHp=H:=rfl
  generalize entry ((["self"]:List PySem.Str).zip [.ref k]) H=σ at h1 h2 ⊢
  subst h2
  obtain ⟨σ₂,a1,fs',j,a2,a3,a4,a5,a6⟩:=qJp (pp:=pp) (n:=n) h hS
  unfold vV
  refine zQ (zD (qB h1) (h.po.get bT (hF0.kx.meth (by decide)) (by rfl)) (xs:=[]) rfl a1) ?_
  refine qF (xN (σ₁:={ σ with toHp:=σ₂.toHp }) (qDg (zR (qB (σ:={ σ with toHp:=σ₂.toHp }) h1) (a2.po.fld bT (by decide) a3.2.1 rfl)) rfl) ⟨rfl,a2.kept,fs',j,?_⟩)
  obtain ⟨F,F1,F2⟩:=a3
  exact ⟨a2.po,Nat.lt_of_lt_of_le h.k a2.kept.nxt,Nat.lt_of_lt_of_le h.d a2.kept.nxt,F.kx,F.iw,F.tw,F.code,F.lev,F.good,F.cont,F1,F2,a4,a5,Nat.lt_of_lt_of_le a6 a2.kept.nxt⟩
 obtain ⟨f,σ',e,rfl,w⟩:=main
 refine ⟨σ',?_,w⟩
 rw [qV rfl (by decide)]
 exact zJ (by rfl) rfl e rfl
theorem yL {cx:Cx} {a b:X} {x:V} {xs:List V} {σ₂:St} (ha:ev cx a σ=.ok x σ₁) (hb:ev cx b σ₁=.ok (.list xs) σ₂):ev cx (.cons a b) σ=.ok (.list (x::xs)) σ₂:=by
 rw [qId,Rs.bind_ok ha,Rs.bind_ok hb]; rfl
theorem qZh {cx:Cx} {es:X} {xs:List V} (h:ev cx es σ=.ok (.list xs) σ₁) (hl:xs.length≤sizeLine):ev cx (.list es) σ=.ok (.list xs) σ₁:=by
 rw [qIc,Rs.bind_ok h]
 exact if_pos hl
theorem qIa {c:V} {b:V} {br:V} {σ1 σ2 σ3:St} (g1:∀ m a,meths09.lookup m=some a→(T pp (n+1)).get (.ref k) m H=some (.top (.ref a),[.ref k]))
  (a1:(T pp (n+1)).app (.top (.ref 190)) [.ref k] H=.ok c σ1)
  (g2:∀ m a,meths09.lookup m=some a→(T pp (n+1)).get (.ref k) m σ1.toHp=some (.top (.ref a),[.ref k]))
  (a2:(T pp (n+1)).app (.top (.ref 232)) [.ref k] σ1.toHp=.ok b σ2)
  (g3:∀ m a,meths09.lookup m=some a→(T pp (n+1)).get (.ref k) m σ2.toHp=some (.top (.ref a),[.ref k]))
  (a3:(T pp (n+1)).app (.top (.ref 246)) [.ref k] σ2.toHp=.ok br σ3)
  (a4:(T pp (n+1)).fld (.ref k) "goodlines" σ3.toHp=.ok (.ref j)) :
  ∃ σ',(T pp (n+2)).app (.top (.ref 260)) [.ref k] H=.ok (.list [c,b,br,.ref j]) σ'∧σ'.toHp=σ3.toHp:=by
 have main:Gd (ex qFo (T pp (n+1)) (entry ((["parser"]:List PySem.Str).zip [.ref k]) H)) fun f σ'=>f=.ret (.list [c,b,br,.ref j])∧σ'.toHp=σ3.toHp:=by
  have h1:(entry ((["parser"]:List PySem.Str).zip [.ref k]) H).loc.lookup ("parser" : PySem.Str)=some (.ref k):=rfl
  have h2:(entry ((["parser"]:List PySem.Str).zip [.ref k]) H).toHp=H:=rfl
  generalize entry ((["parser"]:List PySem.Str).zip [.ref k]) H=σ at h1 h2 ⊢
  subst h2
  unfold qFo
  refine qF (xN (qZh (yL (zD (qB h1) (g1 _ _ (by rfl)) (xs:=[]) rfl a1) (yL (zD (σ:={ σ with toHp:=σ1.toHp }) (qB h1) (g2 _ _ (by rfl)) (xs:=[]) rfl a2)
   (yL (zD (σ:={ σ with toHp:=σ2.toHp }) (qB h1) (g3 _ _ (by rfl)) (xs:=[]) rfl a3) (yL (zR (σ:={ σ with toHp:=σ3.toHp }) (qB h1) a4) rfl)))) (by show 4≤sizeLine; decide)) ⟨rfl,rfl⟩)
 obtain ⟨f,σ',e,rfl,w⟩:=main
 refine ⟨σ',?_,w⟩
 rw [qV rfl (by decide)]
 exact zJ (by rfl) rfl e rfl
theorem vW:∀ m a,meths09.lookup m=some a→m ∉ canon:=by
 intro m a h
 have h1:∀ q∈meths09,q.1 ∉ canon:=by decide +kernel
 exact h1 _ (qR h)
theorem qEc (hz:CodeOk z) (h:Par0 H k d fs z) (ht:Told z t):∃ σ' j fs',(T pp (n+4)).app (.top (.ref 260)) [.ref k] H=.ok (kH t j) σ'∧Kept H σ'.toHp d∧Par2 σ'.toHp k d fs' z t j:=by
 obtain ⟨σ1,a1,b1,fs1,c1⟩:=qWo (pp:=pp) (n:=n+1) (h.ready hz ht)
 obtain ⟨σ2,a2,b2,fs2,j,c2⟩:=qKs (pp:=pp) (n:=n) c1 (qBc ht.tell).2
 obtain ⟨σ3,a3,b3⟩:=qIp (pp:=pp) (n:=n+1) c2
 obtain ⟨j1,hF1,_⟩:=c1.st
 obtain ⟨σ',e1,e2⟩:=qIa (pp:=pp) (n:=n+2) (fun m a hm=>h.po.get bT (h.fs.kx.meth (vW m a hm)) hm) a1 (fun m a hm=>c1.po.get bT (hF1.kx.meth (vW m a hm)) hm) a2 (fun m a hm=>c2.po.get bT (c2.kx.meth (vW m a hm)) hm) a3
  (by rw [b3]; exact c2.po.fld bT (by decide) c2.good rfl)
 exact ⟨σ',j,fs2,e1,by rw [e2,b3]; exact b1.trans b2,by rw [e2,b3]; exact c2⟩
theorem qRc (h:Par2 H k d fs y t j):∃ σ',(T pp (n+4)).app (.top (.ref 260)) [.ref k] H=.ok (kH t j) σ'∧σ'.toHp=H:=by
 obtain ⟨σ1,a1,b1⟩:=qWn (pp:=pp) (n:=n+1) h
 obtain ⟨σ2,a2,b2⟩:=qKt (pp:=pp) (n:=n+1) h
 obtain ⟨σ3,a3,b3⟩:=qIp (pp:=pp) (n:=n+1) h
 have g:∀ m a,meths09.lookup m=some a→(T pp (n+3)).get (.ref k) m H=some (.top (.ref a),[.ref k]):=fun m a hm=>h.po.get bT (h.kx.meth (vW m a hm)) hm
 obtain ⟨σ',e1,e2⟩:=qIa (pp:=pp) (n:=n+2) g a1 (by rw [b1]; exact g) (by rw [b1]; exact a2) (by rw [b2]; exact g) (by rw [b2]; exact a3) (by rw [b3]; exact h.po.fld bT (by decide) h.good rfl)
 exact ⟨σ',e1,e2.trans b3⟩
end
section
variable {pp:Params} {n k d j:Nat} {H:Hp} {fs:qX} {σ σ₁:St} {y z:PySem.Str} {t:Tell}
theorem qZm:∃ σ',(T pp (n+1)).app (.top (.ref 274)) [.str z] H=.ok (.list [.int ((qGh z).1:Nat),.bool (qGh z).2]) σ'∧σ'.toHp=H:=by
 have main:Gd (ex qMg (T pp n) (entry ((["code"]:List PySem.Str).zip [.str z]) H)) fun f σ'=>f=.ret (.list [.int ((qGh z).1:Nat),.bool (qGh z).2])∧σ'.toHp=H:=by
  have h1:(entry ((["code"]:List PySem.Str).zip [.str z]) H).loc.lookup ("code" : PySem.Str)=some (.str z):=rfl
  have h2:(entry ((["code"]:List PySem.Str).zip [.str z]) H).toHp=H:=rfl
  generalize entry ((["code"]:List PySem.Str).zip [.str z]) H=σ at h1 h2 ⊢
  subst h2
  have ret:∀ {x:X} {i:Int} {b:X} {q:Bool},ev (T pp n).toCx x σ=.ok (.int i) σ→ev (T pp n).toCx b σ=.ok (.bool q) σ→ev (T pp n).toCx (.list (.cons x (.cons b .nil))) σ=.ok (.list [.int i,.bool q]) σ :=
   fun h h'=>vI (qD h (qD h' rfl)) (by show 2≤sizeLine; decide)
  unfold qMg qGh
  refine qJ (qOf rfl (qB h1)) (fun q=>?_) fun q=>?_
  ·rw [if_pos q]; exact qF (xN (ret (qP (zKi bT)) rfl) ⟨rfl,rfl⟩)
  rw [if_neg (by rw [q]; decide)]
  refine qJ (qOf rfl (qB h1)) (fun q=>?_) fun q=>?_
  ·rw [if_pos q]; exact qF (xN (ret (qP (zMe bT)) rfl) ⟨rfl,rfl⟩)
  rw [if_neg (by rw [q]; decide)]
  refine qJ (qOf rfl (qB h1)) (fun q=>?_) fun q=>?_
  ·rw [if_pos q]; exact qF (xN (ret (qP (zMg bT)) rfl) ⟨rfl,rfl⟩)
  rw [if_neg (by rw [q]; decide)]
  have e:=yK (yJ (qB (cx:=(T pp n).toCx) h1) (uV (i:=2)) (show ev (T pp n).toCx .none σ=.ok .none σ from rfl) qHb) (show ev (T pp n).toCx (.str ":\n") σ=.ok (.str ":\n") σ from rfl)
  have hq:(cut z.cps.toList (some (-2)) none == (":\n" : PySem.Str).cps.toList)=decide (cut z.cps.toList (some (-2)) none=[58,10]):=by
   have:(":\n" : PySem.Str).cps.toList=[58,10]:=by decide +kernel
   rw [this]
   exact Bool.eq_iff_iff.mpr (by rw [beq_iff_eq,decide_eq_true_eq])
  exact qF (xN (ret (qP (zKj bT)) (e.trans (congrArg (fun b=>Rs.ok (V.bool b) σ) hq))) ⟨rfl,rfl⟩)
 obtain ⟨f,σ',e,rfl,w⟩:=main
 refine ⟨σ',?_,w⟩
 rw [qV rfl (by decide)]
 exact zJ (by rfl) rfl e rfl
noncomputable def optV (o:Option Int):V:=o.elim .none .int
theorem qHv:∀ l:List Int,jY (l.map .int)=some l
 | []=>rfl
 | a::l=>by
  show (jY (l.map .int)).map (a::·)=_
  rw [qHv l]; rfl
theorem zGa {l:List Int} {σ:St}:(T pp n).app (.top (.builtin "sum")) [.list (l.map .int)] H=okH (.int l.sum) H:=by
 rw [bT.bl]
 unfold bapp
 rw [if_neg (by decide),if_neg (by decide),if_pos rfl]
 show (jY (l.map .int)).elim Rs.bad _=_
 rw [qHv]; rfl
theorem qEn {f a:X} {vf v r:V} (hf:ev (T pp n).toCx f σ=.ok vf σ) (ha:ev (T pp n).toCx a σ=.ok v σ) (h:(T pp n).app vf [v] σ.toHp=okH r σ.toHp):ev (T pp n).toCx (.call f (.cons a .nil)) σ=.ok r σ :=
 zN (σ':={ toHp:=σ.toHp,loc:=[] }) hf (qD ha rfl) h
theorem qMd {a:X} {v:V} {i:Int} (ha:ev (T pp n).toCx a σ=.ok v σ) (h:qHo v σ.toHp=okH (.int i) σ.toHp):ev (T pp n).toCx (.call (.glob "len") (.cons a .nil)) σ=.ok (.int i) σ :=
 qEn (qP (qFk bT)) ha (by rw [bT.bl,uE,h])
theorem qLj {α:Type} {xs:List α} {k:Nat}:cut xs none (some (k:Int))=xs.take k:=by
 show (xs.drop 0).take (clipAt xs.length (k:Int) - 0)=_
 rw [uD,List.drop_zero,Nat.sub_zero]
 by_cases h:k≤xs.length
 ·rw [Nat.min_eq_left h]
 ·rw [Nat.min_eq_right (by lia),List.take_of_length_le (Nat.le_refl _),List.take_of_length_le (by lia)]
theorem zKs {α:Type} {xs:List α} {k:Nat}:cut xs (some (k:Int)) none=xs.drop k:=by
 show (xs.drop (clipAt xs.length (k:Int))).take (xs.length - clipAt xs.length (k:Int))=_
 rw [uD]
 by_cases h:k≤xs.length
 ·rw [Nat.min_eq_left h,List.take_of_length_le (by rw [List.length_drop]; exact Nat.le_refl _)]
 ·rw [Nat.min_eq_right (by lia),Nat.sub_self,List.take_zero,List.drop_eq_nil_of_le (by lia)]
theorem qZj {x:PySem.Str} {c:Nat} {v:V} {cx:Cx} (h:σ.cel.lookup x=some c) (ho:σ.obj c=some (.cell (some v))):ev cx (.cv x) σ=.ok v σ:=by
 rw [qXg,h]
 show (match σ.obj c with | some (.cell (some v))=>Rs.ok v σ | _=>.bad)=_
 rw [ho]
theorem qWi {r:PySem.Str}:wE H .In (.str r) (.list (words4.map .str))=.ok (.bool (words4.contains r)):=by
 show Ov.ok (.bool ((words4.map PyData.str).any fun y=>PyData.eqv y (.str r)))=_
 rw [List.any_map]
 have:(fun y=>PyData.eqv y (.str r)) ∘ PyData.str=fun w=>w == r:=by
  funext w
  show PyData.eqv (.str w) (.str r)=_
  rw [PyData.eqv]
 rw [this,List.contains_eq_any_beq]
 congr 2
 congr 1
 funext w
 exact Bool.eq_iff_iff.mpr (by rw [beq_iff_eq,beq_iff_eq]; exact eq_comm)
theorem qCf {m:Nat}:∀ l:List Int,(l.map V.int).mapM (dat H (m+1))=some (l.map PyData.int)
 | []=>rfl
 | a::l=>by
  rw [List.map_cons,List.mapM_cons,qCf l]; rfl
theorem zJw {o:Nat} {l:List Int} (ho:H.obj o=some (.list (l.map .int))):wE H .NotEq (.ref o) (.list [])=.ok (.bool (!l.isEmpty)):=by
 show qIr ((((((asO (H.obj o)).bind fun xs=>(xs.mapM (dat H 7)).map PyData.list)).bind fun x=>(dat H 8 (.list [])).map fun y=>PyData.eqv x y)).map (!·))=_
 rw [ho]
 show qIr ((((((l.map V.int).mapM (dat H 7)).map PyData.list).bind fun x=>(dat H 8 (.list [])).map fun y=>PyData.eqv x y)).map (!·))=_
 rw [qCf]
 show Ov.ok (.bool (!PyData.eqv (.list (l.map PyData.int)) (.list [])))=_
 rw [PyData.eqv]
 cases l with
 | nil=>rw [List.map_nil,PyData.eqvAll]; rfl
 | cons a l=>rw [List.map_cons,PyData.eqvAll]; rfl
noncomputable def zHi:X:=.call (.glob "sum") (.cons (.comp (.bin .Add (.call (.glob "len") (.cons (.var "row") .nil)) (.int 1)) "row" (.slc (.cv "rows") .none (.var "k")) (.bool true)) .nil)
theorem zHh {c k:Nat} {rs:List PySem.Str} (hn:rs.length≤8) (hr:σ.cel.lookup ("rows" : PySem.Str)=some c) (ho:σ.obj c=some (.cell (some (.list (rs.map .str))))) (hk:σ.loc.lookup ("k" : PySem.Str)=some (.int (k:Nat))) :
  ev (T pp n).toCx zHi σ=.ok (.int (qOm rs k)) σ:=by
 have e1:ev (T pp n).toCx (.slc (.cv "rows") .none (.var "k")) σ=.ok (.list ((rs.take k).map .str)) σ:=by
  refine yJ (qZj hr ho) (show ev (T pp n).toCx .none σ=.ok .none σ from rfl) (qB hk) ?_
  show Ov.ok (.list (cut (rs.map .str) none (some (k:Int))))=_
  rw [qLj,List.map_take]
 have e2:=qMf (qCk (pp:=pp) n) (elt:=.bin .Add (.call (.glob "len") (.cons (.var "row") .nil)) (.int 1)) (x:="row") (fun v=>match v with | .str r=>.int ((r.length:Nat)+1) | v=>v) e1 rfl (fun v hv=>by
  obtain ⟨r,hr,rfl⟩:=List.mem_map.mp hv
  exact zG (qMd (qB rfl) rfl) rfl) (by rw [List.length_map,List.length_take]; exact Nat.le_trans (Nat.le_trans (Nat.min_le_right _ _) hn) (by decide))
 have e3:((rs.take k).map V.str).map (fun v=>match v with | .str r=>V.int ((r.length:Nat)+1) | v=>v)=(((rs.take k).map fun r=>((r.length:Nat):Int)+1)).map .int:=by
  rw [List.map_map,List.map_map]; rfl
 rw [e3] at e2
 exact qEn (qP (by rw [bT.gl]; rfl)) e2 (zGa (σ:=σ))
theorem range_ok:∀ m < 9,Builtin.Range.small 0 (m:Nat) 1=true∧(Builtin.Range.rangeSize 0 (m:Nat) 1).toNat=m:=by decide +kernel
theorem zEk {m:Nat} (h:m≤8):xL H (.rng 0 (m:Nat) 1)=some ((List.range m).map fun (i:Nat)=>.int (i:Int)):=by
 show some ((List.range (Builtin.Range.rangeSize 0 (m:Nat) 1).toNat).map fun (i:Nat)=>V.int (0+(i:Int) * 1))=_
 rw [(range_ok m (by lia)).2]
 congr 2
 funext i
 rw [Int.mul_one,Int.zero_add]
theorem qQz {o:Nat} {a:Int} {l:List Int} (ho:H.obj o=some (.list ((a::l).map .int))):jK H (.ref o) (.int 0)=.ok (.int a):=by
 show (if xO 0=true then ((asO (H.obj o)).elim Ov.bad fun xs=>((seqIndex? 0 xs.length).bind (xs[·]?)).elim .bad .ok) else .bad)=_
 rw [if_pos (by decide),ho]
 show ((seqIndex? ((0:Nat):Int) ((a::l).map V.int).length).bind (((a::l).map V.int)[·]?)).elim Ov.bad .ok=_
 rw [yP (by rw [List.length_map,List.length_cons]; lia)]; rfl
theorem seq_last {n:Nat} (h:0 < n):seqIndex? (-1) n=some (n - 1):=by
 have e:(if (-1:Int) < 0 then (-1:Int)+n else -1)=((n - 1:Nat):Int):=by rw [if_pos (by decide)]; lia
 unfold seqIndex?
 rw [e]
 exact (if_pos (by rw [Bool.and_eq_true]; exact ⟨decide_eq_true (by lia),decide_eq_true (by lia)⟩)).trans (congrArg some (Int.toNat_natCast _))
theorem qWk {o:Nat} {a:Int} {l:List Int} (ho:H.obj o=some (.list (l.map .int))) (h:l.getLast? = some a):jK H (.ref o) (.int (-1))=.ok (.int a):=by
 show (if xO (-1)=true then ((asO (H.obj o)).elim Ov.bad fun xs=>((seqIndex? (-1) xs.length).bind (xs[·]?)).elim .bad .ok) else .bad)=_
 rw [if_pos (by decide),ho]
 show ((seqIndex? (-1) (l.map V.int).length).bind ((l.map V.int)[·]?)).elim Ov.bad .ok=_
 have hl:0 < l.length:=by cases l with
  | nil=>cases h
  | cons=>exact Nat.zero_lt_succ _
 rw [List.length_map,seq_last hl]
 show ((l.map V.int)[l.length - 1]?).elim Ov.bad .ok=_
 rw [List.getElem?_map,← List.getLast?_eq_getElem?,h]; rfl
theorem qQe {rs:List PySem.Str} {bar:Int} (hn:rs.length≤8):∃ σ',(T pp (n+1)).app (.top (.ref 279)) [.list (rs.map .str),.int bar] H=.ok (optV (placeN rs bar)) σ'∧Same H σ'.toHp:=by
 have main:Gd (ex wQ (T pp n) (entryC place_sc ((["rows", "bar"]:List PySem.Str).zip [.list (rs.map .str),.int bar]) H)) fun f σ'=>f=.ret (optV (placeN rs bar))∧Same H σ'.toHp:=by
  have h1:(entryC place_sc ((["rows", "bar"]:List PySem.Str).zip [.list (rs.map .str),.int bar]) H).loc.lookup ("bar" : PySem.Str)=some (.int bar):=by rfl
  have h2:(entryC place_sc ((["rows", "bar"]:List PySem.Str).zip [.list (rs.map .str),.int bar]) H).toHp=H.add (.cell (some (.list (rs.map .str)))):=by rfl
  have h3:(entryC place_sc ((["rows", "bar"]:List PySem.Str).zip [.list (rs.map .str),.int bar]) H).cel=[(("rows" : PySem.Str),H.nxt)]:=by rfl
  generalize entryC place_sc ((["rows", "bar"]:List PySem.Str).zip [.list (rs.map .str),.int bar]) H=σ at h1 h2 h3 ⊢
  have hc:σ.cel.lookup ("rows" : PySem.Str)=some H.nxt:=by rw [h3]; rfl
  have ho:σ.obj H.nxt=some (.cell (some (.list (rs.map .str)))):=by rw [h2]; exact if_pos rfl
  have e1:ev (T pp n).toCx (.call (.glob "range") (.cons (.call (.glob "len") (.cons (.cv "rows") .nil)) .nil)) σ=.ok (.rng 0 (rs.length:Nat) 1) σ :=
   qEn (qP (by rw [bT.gl]; rfl)) (qMd (i:=(rs.length:Nat)) (qZj hc ho) (by show okH (.int ((rs.map V.str).length:Nat)) _=_; rw [List.length_map])) (by rw [qGb,wZ,qUs,if_pos (range_ok rs.length (by lia)).1])
  have e2:=qSu (qCk (pp:=pp) n) (elt:=zHi) (x:="k") (cond:=.cmp .In (.idx (.cv "rows") (.var "k")) (.list (.cons (.str "def f:") (.cons (.str "  return (1,") (.cons (.str "try:") (.cons (.str "else") .nil))))))
   (fun v=>(zW v).bind fun i=>if words4.contains (rs.getD i.toNat "")=true then some (.int (qOm rs i.toNat)) else none) e1 (zEk hn) (fun v hv=>by
    obtain ⟨i,hi,rfl⟩:=List.mem_map.mp hv
    rw [List.mem_range] at hi
    have q1:ev (T pp n).toCx (.idx (.cv "rows") (.var "k")) ⟨σ.toHp,[("k", .int (i:Nat))],σ.cel,none⟩=.ok (.str (rs.getD i "")) ⟨σ.toHp,[("k", .int (i:Nat))],σ.cel,none⟩:=by
     refine xZ (qZj hc ho) (qB rfl) ?_
     exact wA (xs:=rs.map V.str) (j:=i) rfl rfl (jL (by lia) (by lia)) (yP (by rw [List.length_map]; exact hi)) (by rw [List.getElem?_map,List.getD_eq_getElem?_getD,List.getElem?_eq_getElem hi]; rfl)
    have q2:=kN q1 (b:=.list (.cons (.str "def f:") (.cons (.str "  return (1,") (.cons (.str "try:") (.cons (.str "else") .nil))))) (y:=.list (words4.map .str)) (vI (qD rfl (qD rfl (qD rfl (qD rfl rfl)))) (by show 4≤sizeLine; decide)) qWi
    rw [q2]
    show qAc (.bool _) _ _=Rs.ok ((if words4.contains (rs.getD i "")=true then some (.int (qOm rs i)) else none)) _
    cases words4.contains (rs.getD i "") with
    | false=>rfl
    | true =>
     show (ev (T pp n).toCx zHi _).bind _=_
     exact Rs.bind_ok (zHh (pp:=pp) (n:=n) (σ:=⟨σ.toHp,[(("k" : PySem.Str),.int (i:Nat))],σ.cel,none⟩) hn hc ho rfl)) (Nat.le_trans (List.length_filterMap_le ..) (by rw [List.length_map,List.length_range]; exact Nat.le_trans hn (by decide)))
  have e3:((List.range rs.length).map fun (i:Nat)=>V.int (i:Int)).filterMap (fun v=>(zW v).bind fun i=>if words4.contains (rs.getD i.toNat "")=true then some (V.int (qOm rs i.toNat)) else none)=(placesN rs).map .int:=by
   unfold placesN
   rw [List.filterMap_map,List.map_filterMap]
   congr 1
   funext i
   show (if words4.contains (rs.getD i "")=true then some (V.int (qOm rs i)) else none)=_
   split <;> rfl
  rw [e3] at e2
  unfold wQ
  refine qF (qFm e2 ?_)
  have g1:((σ.add (.list ((placesN rs).map .int))).set "places" (.ref σ.nxt)).loc.lookup ("places" : PySem.Str)=some (.ref σ.nxt):=qE
  have g2:((σ.add (.list ((placesN rs).map .int))).set "places" (.ref σ.nxt)).loc.lookup ("bar" : PySem.Str)=some (.int bar):=qA (by decide) h1
  have g3:((σ.add (.list ((placesN rs).map .int))).set "places" (.ref σ.nxt)).obj σ.nxt=some (.list ((placesN rs).map .int)):=if_pos rfl
  have g4:Same H ((σ.add (.list ((placesN rs).map .int))).set "places" (.ref σ.nxt)).toHp:=by
   refine ⟨?_,fun i hi=>?_⟩
   ·show H.nxt≤σ.nxt+1
    rw [h2]; show H.nxt≤H.nxt+1+1
    lia
   ·have e:σ.nxt=H.nxt+1:=by rw [h2]; rfl
    show (if i=σ.nxt then _ else σ.obj i)=_
    rw [if_neg (by lia),h2]
    exact if_neg (by lia)
  generalize (σ.add (.list ((placesN rs).map .int))).set "places" (.ref σ.nxt)=τ at g1 g2 g3 g4 ⊢
  generalize σ.nxt=o at g1 g3
  refine qF (xN (σ₁:=τ) ?_ ⟨rfl,g4⟩)
  have c1:ev (T pp n).toCx (.cmp .NotEq (.var "places") (.list .nil)) τ=.ok (.bool (!(placesN rs).isEmpty)) τ:=kN (qB g1) (vI rfl (by show 0≤sizeLine; decide)) (zJw g3)
  have c2:placesN rs≠[]→ev (T pp n).toCx (.cmp .GtE (.idx (.var "places") (.int 0)) (.var "bar")) τ=.ok (.bool (decide ((placesN rs).headD 0 ≥ bar))) τ:=by
   intro h
   cases hp:placesN rs with
   | nil=>exact absurd hp h
   | cons a l=>rw [hp] at g3; exact jQ (xZ (qB g1) rfl (qQz g3)) (qB g2)
  have c3:=qGg c1 (q:=decide ((placesN rs).headD 0 ≥ bar)) fun q=>c2 (by intro q'; rw [q'] at q; cases q)
  rw [qNp,Rs.bind_ok c3]
  unfold condR placeN
  by_cases hp:placesN rs=[]
  ·rw [hp]; rfl
  ·by_cases hb:(placesN rs).headD 0 ≥ bar
   ·rw [if_pos ⟨hp,hb⟩,decide_eq_true hb]
    have:(placesN rs).isEmpty=false:=by cases hq:placesN rs with
     | nil=>exact absurd hq hp
     | cons=>rfl
    rw [this]
    obtain ⟨a,ha⟩:∃ a,(placesN rs).getLast? = some a:=⟨_,List.getLast?_eq_some_getLast hp⟩
    rw [ha]
    exact xZ (qB g1) (uV (i:=1)) (qWk g3 ha)
   ·rw [if_neg (fun q=>hb q.2),decide_eq_false hb,Bool.and_false]; rfl
 obtain ⟨f,σ',e,rfl,w⟩:=main
 refine ⟨σ',?_,w⟩
 rw [qV rfl (by decide)]
 unfold qY
 rw [show rows09.lookup 279=some (place_sc,(["rows", "bar"]:List PySem.Str),wQ) from by rfl]
 show jU place_sc (["rows", "bar"]:List PySem.Str) wQ (T pp n) [.list (rs.map .str),.int bar] H=_
 unfold jU
 rw [if_pos (show ([.list (rs.map .str),.int bar]:List V).length=(["rows", "bar"]:List PySem.Str).length from rfl),Rs.bind_ok e]; rfl
end
noncomputable def a0S:S:=(.seq (.asg "code" (.idx (.var "texts") (.bin .Mod (.bin .FloorDiv (.var "x") (.int 5)) (.int 6)))) (.seq (.asg "kept" .none) (.seq (.expr (.meth (.var "parser") "set_code" (.cons (.var "code") .nil))) .nil)))
noncomputable def a1S:S:=(.seq (.own "rows" (.comp (.bin .Add (.var "row") (.str "\n")) "row" (.slc (.meth (.var "code") "split" (.cons (.str "\n") .nil)) .none (.neg (.int 1))) (.bool true))) (.seq (.asg "number" (.bin .Mod (.bin .FloorDiv (.var "x") (.int 5)) (.bin .Add (.call (.glob "len") (.cons (.var "rows") .nil)) (.int 1)))) (.seq (.expr (.meth (.var "parser") "set_lo" (.cons (.call (.glob "len") (.cons (.meth (.str "") "join" (.cons (.slc (.var "rows") .none (.var "number")) .nil)) .nil)) .nil))) (.seq (.asg "code" (.meth (.str "") "join" (.cons (.slc (.var "rows") (.var "number") .none) .nil))) .nil))))
noncomputable def a2S:S:=(.seq (.ite (.cmp .Is (.var "kept") .none) (.seq (.asg "kept" (.call (.glob "_law_four") (.cons (.call (.glob "_law_fresh") (.cons (.var "code") .nil)) .nil))) (.seq (.ite (.cmp .NotEq (.slc (.var "kept") .none (.int 2)) (.call (.glob "_law_two") (.cons (.var "code") .nil))) (.seq (.ret (.bool false)) .nil) .nil) .nil)) .nil) (.seq (.ite (.cmp .NotEq (.call (.glob "_law_four") (.cons (.var "parser") .nil)) (.var "kept")) (.seq (.ret (.bool false)) .nil) .nil) .nil))
noncomputable def a3S:S:=(.seq (.tryA (.var "parser") "set_code" (.cons (.idx (.var "bad") (.bin .Mod (.bin .FloorDiv (.var "x") (.int 5)) (.int 4))) .nil)) .nil)
noncomputable def a4S:S:=(.seq (.asgC "bar" (.bin .Mod (.bin .FloorDiv (.var "x") (.int 5)) (.int 2))) (.seq (.asg "told" (.meth (.var "parser") "find_good_parse_start" (.cons (.lam ["place"] (.cmp .Lt (.var "place") (.cv "bar"))) .nil))) (.seq (.ite (.cmp .NotEq (.var "told") (.call (.glob "_law_place") (.cons (.slc (.meth (.var "code") "split" (.cons (.str "\n") .nil)) .none (.neg (.int 1))) (.cons (.cv "bar") .nil)))) (.seq (.ret (.bool false)) .nil) .nil) .nil)))
noncomputable def itX:X:=(.bin .Add (.bin .Add (.list (.cons (.int 2) .nil)) (.or (.slc (.var "script") .none (.int 20)) (.list (.cons (.int 6) (.cons (.int 2) (.cons (.int 3) (.cons (.int 10) .nil))))))) (.list (.cons (.int 2) .nil)))
noncomputable def zNp:S:=(.ite (.cmp .NotEq (.attr (.var "parser") "code") (.var "code")) (.seq (.ret (.bool false)) .nil) .nil)
noncomputable def qSz:S:=.seq (.ite (.cmp .Eq (.bin .Mod (.var "x") (.int 5)) (.int 0)) a0S (.seq (.ite (.cmp .Eq (.bin .Mod (.var "x") (.int 5)) (.int 1)) a1S (.seq (.ite (.cmp .Eq (.bin .Mod (.var "x") (.int 5)) (.int 2)) a2S (.seq (.ite (.cmp .Eq (.bin .Mod (.var "x") (.int 5)) (.int 3)) a3S a4S) .nil)) .nil)) .nil)) (.seq zNp .nil)
theorem zKe:qNd=(.seq (.asg "texts" (.list (.cons (.str "def f:\n  return (1,\n") (.cons (.str "x = '''\ntry:\n") (.cons (.str "a\nif b:\n") (.cons (.str "") (.cons (.str "y = \\\n") (.cons (.str "else\n(')')\n\n#c\n") .nil)))))))) (.seq (.asg "bad" (.list (.cons (.str "a") (.cons (.str "\n ") (.cons (.str "x:\n\r") (.cons (.str ":") .nil)))))) (.seq (.asg "code" (.idx (.var "texts") (.int 0))) (.seq (.asg "kept" .none) (.seq (.asg "parser" (.call (.glob "_law_fresh") (.cons (.var "code") .nil))) (.seq (.each "x" itX qSz) (.seq (.ret (.bool true)) .nil))))))):=rfl
section
variable {pp:Params} {n k d j:Nat} {H H':Hp} {fs:qX} {σ σ₁ σ₂:St} {c y z:PySem.Str} {t:Tell} {v:V} {x:Int} {Q:Fl→St→Prop}
theorem qGe {cx:Cx} {a b:X} {x y:Int} (ha:ev cx a σ=.ok (.int x) σ) (hb:ev cx b σ=.ok (.int y) σ) (h:y≠0):ev cx (.bin .Mod a b) σ=.ok (.int (x.fmod y)) σ:=yM ha hb (if_neg h)
theorem qEm {cx:Cx} {a:X} {x:Int} (ha:ev cx a σ=.ok (.int x) σ):ev cx (.bin .FloorDiv a (.int 5)) σ=.ok (.int (x.fdiv 5)) σ:=yM ha (show ev cx (.int 5) σ=.ok (.int 5) σ from rfl) rfl
theorem yY {b:Nat} (hb:0 < b) (a:Int):∃ k:Nat,k < b∧a.fmod b=(k:Int):=by
 have h1:=Int.fmod_nonneg_of_pos a (b:=(b:Int)) (by lia)
 have h2:=Int.fmod_lt_of_pos a (b:=(b:Int)) (by lia)
 exact ⟨(a.fmod b).toNat,by lia,by lia⟩
theorem qSv {cx:Cx} {op:CmpOp} {a b:X} {x y v:V} (ha:ev cx a σ=.ok x σ₁) (hb:ev cx b σ₁=.ok y σ₂) (h:wE σ₂.toHp op x y=.ok v):ev cx (.cmp op a b) σ=.ok v σ₂:=by
 rw [qNq,Rs.bind_ok ha,Rs.bind_ok hb,h]; rfl
theorem qBx {l:List PySem.Str} {i:Nat} {r:PySem.Str} (hi:i≤1000) (h:l[i]? = some r):jK H (.list (l.map .str)) (.int (i:Nat))=.ok (.str r) :=
 wA (xs:=l.map V.str) (j:=i) rfl rfl (jL (by lia) (by lia)) (yP (by rw [List.length_map]; exact (List.getElem?_eq_some_iff.mp h).1)) (by rw [List.getElem?_map,h]; rfl)
theorem qFc {a b:V} {D:PyData} (ha:dat H 8 a=some D) (hb:dat H 8 b=some D) (hD:D.canLay0=true):wE H .NotEq a b=.ok (.bool false):=by
 show qIr ((((dat H 8 a).bind fun x=>(dat H 8 b).map fun y=>PyData.eqv x y)).map (!·))=_
 rw [ha,hb]
 show Ov.ok (.bool (!PyData.eqv D D))=_
 rw [SeqAt.eqv_refl D hD]; rfl
theorem zFo {α:Type} {xs:List α} {a:α}:cut (xs++[a]) none (some (-1))=xs:=by
 show ((xs++[a]).drop 0).take (clipAt (xs++[a]).length (-1) - 0)=_
 have:clipAt (xs++[a]).length (-1)=xs.length:=by
  unfold clipAt
  rw [List.length_append,List.length_singleton,if_pos (by decide)]
  lia
 rw [this,List.drop_zero,Nat.sub_zero,List.take_left]
theorem zEg:zI "split" = some "str.split" := by unfold zI; rw [if_neg (by decide),if_neg (by decide),if_pos rfl]
theorem zKb:zI "join" = some "str.join" := by unfold zI; rw [if_neg (by decide),if_neg (by decide),if_neg (by decide),if_pos rfl]
theorem qLt {c:Bool} {a b:V}:bapp c "str.split" [a,b] H=qBf a b H:=by unfold bapp; rw [if_neg (by decide),if_neg (by decide),if_neg (by decide),if_neg (by decide),if_neg (by decide),if_neg (by decide),if_neg (by decide),if_neg (by decide),if_pos rfl]; rfl
theorem qSg {c:Bool} {a b:V}:bapp c "str.join" [a,b] H=yW a b H:=by unfold bapp; rw [if_neg (by decide),if_neg (by decide),if_neg (by decide),if_neg (by decide),if_neg (by decide),if_neg (by decide),if_neg (by decide),if_neg (by decide),if_neg (by decide),if_pos rfl]; rfl
noncomputable def qUm:X:=.slc (.meth (.var "code") "split" (.cons (.str "\n") .nil)) .none (.neg (.int 1))
theorem qMs (hz:CodeOk z) (h:σ.loc.lookup ("code" : PySem.Str)=some (.str z)):ev (T pp n).toCx qUm σ=.ok (.list ((rowsT z).map .str)) σ:=by
 have e:ev (T pp n).toCx (.meth (.var "code") "split" (.cons (.str "\n") .nil)) σ=.ok (.list ((rowsT z++[("" : PySem.Str)]).map .str)) σ:=by
  refine zD (σ':=⟨σ.toHp,[],[],none⟩) (qB h) (wB bT zEg) (qD rfl rfl) ?_
  rw [bT.bl]
  show bapp _ "str.split" [.str z,.str "\n"] _=_
  rw [qLt]
  show (if kR z "\n" = true then okH (.list ((Txt.split z "\n").map .str)) σ.toHp else .bad)=_
  rw [if_pos hz.fits,hz.split]; rfl
 refine yJ e (show ev (T pp n).toCx .none σ=.ok .none σ from rfl) (uV (i:=1)) ?_
 show Ov.ok (.list (cut ((rowsT z++[("" : PySem.Str)]).map V.str) none (some (-1))))=_
 rw [List.map_append]
 exact congrArg (fun l=>Ov.ok (V.list l)) zFo
theorem qHf:(rowsT z).length=(zF z).length:=List.length_map ..
structure Sm (H H':Hp):Prop where
 nxt:H.nxt≤H'.nxt
 same:∀ i,i < H.nxt→(∀ o,H.obj i≠some (.cell o))→H'.obj i=H.obj i
theorem Same.sm (h:Same H H'):Sm H H':=⟨h.1,fun i hi _=>h.2 i hi⟩
inductive Par (H:Hp) (k:Nat) (c:PySem.Str):V→Prop where
 | new {d:Nat} {fs:qX}:Par0 H k d fs c→Par H k c .none
 | old {d:Nat} {fs:qX} {t:Tell} {j j':Nat}:Par2 H k d fs c t j→H.obj j'=some (.list (qI t.gl))→j' < H.nxt→Par H k c (kH t j')
theorem nocell {H:Hp} {i:Nat} {o:O} (h:H.obj i=some o) (hc:∀ v,o≠.cell v):∀ v,H.obj i≠some (.cell v):=fun v q=>hc v (by rw [h] at q; cases q; rfl)
theorem PO.move (h:PO H k d fs) (hk:k < H.nxt) (hd:d < H.nxt) (s:Sm H H'):PO H' k d fs :=
 ⟨(s.same k hk (nocell h.inst nofun)).trans h.inst,(s.same d hd (nocell h.dict nofun)).trans h.dict,h.ne⟩
theorem Par0.move (h:Par0 H k d fs c) (s:Sm H H'):Par0 H' k d fs c:=⟨h.po.move h.k h.d s,Nat.lt_of_lt_of_le h.k s.nxt,Nat.lt_of_lt_of_le h.d s.nxt,h.fs⟩
theorem Par2.move (h:Par2 H k d fs c t j) (s:Sm H H'):Par2 H' k d fs c t j :=
 ⟨h.po.move h.kn h.dn s,Nat.lt_of_lt_of_le h.kn s.nxt,Nat.lt_of_lt_of_le h.dn s.nxt,h.kx,h.iw,h.tw,h.code,h.lev,h.good,h.cont,h.last,h.brk,(s.same j h.jn (nocell h.gl nofun)).trans h.gl,h.jd,Nat.lt_of_lt_of_le h.jn s.nxt⟩
theorem Par.move (h:Par H k c v) (s:Sm H H'):Par H' k c v:=by
 cases h with
 | new p=>exact .new (p.move s)
 | old p g l=>exact .old (p.move s) ((s.same _ l (nocell g nofun)).trans g) (Nat.lt_of_lt_of_le l s.nxt)
structure Any (H:Hp) (k:Nat) (c:PySem.Str) (v:V) (d:Nat) (fs:qX) (m:Nat):Prop where
 po:PO H k d fs
 kn:k < H.nxt
 dn:d < H.nxt
 m3:3≤m
 kx:Kx fs m
 code:fs.lookup ("code" : PySem.Str)=some (.str c)
 fi:FsI fs 4 8
 back:∀ {H':Hp} {fs':qX} {c':PySem.Str},Kept H H' d→PO H' k d fs'→Kx fs' m→fs'.lookup ("code" : PySem.Str)=some (.str c')→(∀ f,(f == ("code" : PySem.Str))=false→fs'.lookup f=fs.lookup f)→Par H' k c' v
theorem Par.any (h:Par H k c v):∃ d fs m,Any H k c v d fs m:=by
 cases h with
 | @new d fs p =>
  exact ⟨d,fs,4,p.po,p.k,p.d,by decide,p.fs.kx,p.fs.code,p.fs.toI,fun a b e f g=>.new ⟨b,Nat.lt_of_lt_of_le p.k a.nxt,Nat.lt_of_lt_of_le p.d a.nxt,e,(g _ (by decide)).trans p.fs.iw,(g _ (by decide)).trans p.fs.tw,f,(g _ (by decide)).trans p.fs.lev⟩⟩
 | @old d fs t j j' p q l =>
  refine ⟨d,fs,11,p.po,p.kn,p.dn,by decide,p.kx,p.code,p.toI,@fun H' fs' c' a b e f g=>@Par.old _ _ _ d fs' t j j' ?_ ((a.same _ l ?_).trans q) (Nat.lt_of_lt_of_le l a.nxt)⟩
  ·exact ⟨b,Nat.lt_of_lt_of_le p.kn a.nxt,Nat.lt_of_lt_of_le p.dn a.nxt,e,(g _ (by decide)).trans p.iw,(g _ (by decide)).trans p.tw,f,(g _ (by decide)).trans p.lev,(g _ (by decide)).trans p.good,(g _ (by decide)).trans p.cont,(g _ (by decide)).trans p.last,(g _ (by decide)).trans p.brk,
    (a.same _ p.jn p.jd).trans p.gl,p.jd,Nat.lt_of_lt_of_le p.jn a.nxt⟩
  ·intro q'
   rw [q',p.po.dict] at q
   cases q
theorem Any.get {m:Nat} (h:Any H k c v d fs m) {nm:PySem.Str} {a:Addr} (hm:meths09.lookup nm=some a):(T pp n).get (.ref k) nm H=some (.top (.ref a),[.ref k]):=h.po.get bT (h.kx.meth (vW nm a hm)) hm
structure Base (σ:St):Prop where
 texts:σ.loc.lookup ("texts" : PySem.Str)=some (.list (texts6.map .str))
 bad:σ.loc.lookup ("bad" : PySem.Str)=some (.list (bads.map .str))
 cel:σ.cel.lookup ("bar" : PySem.Str)=some 1
 tbl:σ.tbl=some (0,lq)
 o0:σ.obj 0=some (.tab lq)
 o1:∃ o,σ.obj 1=some (.cell o)
 nx:2≤σ.nxt
structure Inv (σ:St) (c:PySem.Str) (k:Nat) (v:V):Prop where
 base:Base σ
 mem:c∈codes
 code:σ.loc.lookup ("code" : PySem.Str)=some (.str c)
 parser:σ.loc.lookup ("parser" : PySem.Str)=some (.ref k)
 kept:σ.loc.lookup ("kept" : PySem.Str)=some v
 par:Par σ.toHp k c v
noncomputable def qVp:List PySem.Str:=["texts", "bad", "code", "parser", "kept"]
theorem Base.set (h:Base σ) {y:PySem.Str} (hy:y≠"texts" ∧ y≠"bad") {u:V}:Base (σ.set y u) :=
 ⟨qA (by simpa using hy.1.symm) h.texts,qA (by simpa using hy.2.symm) h.bad,h.cel,h.tbl,h.o0,h.o1,h.nx⟩
theorem Inv.set (h:Inv σ c k v) {y:PySem.Str} (hy:y ∉ qVp) {u:V}:Inv (σ.set y u) c k v:=by
 have q:∀ w∈qVp,(w == y)=false:=fun w hw=>by
  simp only [beq_eq_false_iff_ne]
  intro e; exact hy (e ▸ hw)
 refine ⟨h.base.set ⟨fun e=>hy (by rw [e]; decide),fun e=>hy (by rw [e]; decide)⟩,h.mem,qA (q _ (by decide)) h.code,qA (q _ (by decide)) h.parser,qA (q _ (by decide)) h.kept,h.par⟩
theorem Base.heap (h:Base σ) (hn:σ.nxt≤H'.nxt) (h0:H'.obj 0=σ.obj 0) (h1:∃ o,H'.obj 1=some (.cell o)):Base { σ with toHp:=H' } :=
 ⟨h.texts,h.bad,h.cel,h.tbl,h0.trans h.o0,h1,Nat.le_trans h.nx hn⟩
theorem Base.same (h:Base σ) (s:Same σ.toHp H'):Base { σ with toHp:=H' } :=
 h.heap s.1 (s.2 0 (Nat.lt_of_lt_of_le (by decide) h.nx)) (by obtain ⟨o,e⟩:=h.o1; exact ⟨o,(s.2 1 (Nat.lt_of_lt_of_le (by decide) h.nx)).trans e⟩)
theorem Base.kept (h:Base σ) (s:Kept σ.toHp H' d) (hd:σ.obj d=some (.dict fs)):Base { σ with toHp:=H' }:=by
 obtain ⟨o,e⟩:=h.o1
 refine h.heap s.nxt (s.same 0 (Nat.lt_of_lt_of_le (by decide) h.nx) fun q=>?_) ⟨o,(s.same 1 (Nat.lt_of_lt_of_le (by decide) h.nx) fun q=>?_).trans e⟩
 ·have:=h.o0; rw [q,hd] at this; cases this
 ·rw [q,hd] at e; cases e
theorem Inv.same (h:Inv σ c k v) (s:Same σ.toHp H'):Inv { σ with toHp:=H' } c k v:=⟨h.base.same s,h.mem,h.code,h.parser,h.kept,h.par.move s.sm⟩
theorem zFp {i:Nat} {r:PySem.Str} (h:texts6[i]? = some r):r∈codes:=by
 have:=List.all_eq_true.mp qTh r (List.mem_of_getElem? h)
 simpa using this
theorem zLf (h:Inv σ c k v) (hx:σ.loc.lookup ("x" : PySem.Str)=some (.int x)):Gd (ex a0S (T pp 6) σ) fun f σ'=>f=.next∧∃ c k v,Inv σ' c k v:=by
 unfold a0S
 obtain ⟨i,hi,e⟩:=yY (b:=6) (by decide) (x.fdiv 5)
 have hl:i < texts6.length:=hi
 refine gd_sasg (xZ (qB h.base.texts) ((qGe (qEm (qB hx)) (show ev (T pp 6).toCx (.int 6) σ=.ok (.int 6) σ from rfl) (by decide)).trans (by rw [show (6:Int)=((6:Nat):Int) from rfl,e])) (qBx (by lia) (List.getElem?_eq_getElem hl))) ?_
 have hm:=zFp (List.getElem?_eq_getElem hl)
 generalize texts6[i]=r at hm ⊢
 refine gd_sasg (v:=.none) rfl ?_
 obtain ⟨d,fs,m,A⟩:=h.par.any
 have g1:((σ.set "code" (.str r)).set "kept" .none).loc.lookup ("parser" : PySem.Str)=some (.ref k):=qA (by decide) (qA (by decide) h.parser)
 have g2:((σ.set "code" (.str r)).set "kept" .none).loc.lookup ("code" : PySem.Str)=some (.str r):=qA (by decide) qE
 have g3:((σ.set "code" (.str r)).set "kept" .none).loc.lookup ("kept" : PySem.Str)=some .none:=qE
 have g4:Base ((σ.set "code" (.str r)).set "kept" .none):=(h.base.set (by decide)).set (by decide)
 have g5:((σ.set "code" (.str r)).set "kept" .none).toHp=σ.toHp:=rfl
 generalize (σ.set "code" (.str r)).set "kept" .none=τ at g1 g2 g3 g4 g5 ⊢
 rw [← g5] at A
 obtain ⟨σ3,b1,b2,b3,fs',b4⟩:=qSl (pp:=pp) (n:=5) (uC hm) A.po A.kn A.dn A.fi
 refine zQ (zD (qB g1) (A.get (by rfl)) (qD (qB g2) rfl) b1) (qG ⟨rfl,r,k,.none,?_⟩)
 exact ⟨g4.kept (d:=d) ⟨by rw [b2]; exact Nat.le_refl _,fun i _ hd=>b3 i hd⟩ A.po.dict,hm,g2,g1,g3,.new b4⟩
theorem zLc (h:Inv σ c k v) (hx:σ.loc.lookup ("x" : PySem.Str)=some (.int x)):Gd (ex a3S (T pp 6) σ) fun f σ'=>f=.next∧∃ c k v,Inv σ' c k v:=by
 unfold a3S
 obtain ⟨i,hi,e⟩:=yY (b:=4) (by decide) (x.fdiv 5)
 have hl:i < bads.length:=hi
 obtain ⟨d,fs,m,A⟩:=h.par.any
 have e1:ev (T pp 6).toCx (.idx (.var "bad") (.bin .Mod (.bin .FloorDiv (.var "x") (.int 5)) (.int 4))) σ=.ok (.str bads[i]) σ :=
  xZ (qB h.base.bad) ((qGe (qEm (qB hx)) (show ev (T pp 6).toCx (.int 4) σ=.ok (.int 4) σ from rfl) (by decide)).trans (by rw [show (4:Int)=((4:Nat):Int) from rfl,e])) (qBx (by lia) (List.getElem?_eq_getElem hl))
 refine qF (zEt (qCk 6) ?_ (qB h.parser) (A.get (by rfl)) (qD e1 rfl) (refused (pp:=pp) (n:=5) (List.getElem_mem hl)) (qG ⟨rfl,c,k,v,h⟩))
 rw [bT.gl]; rfl
end
section
variable {pp:Params} {n k d j:Nat} {H H':Hp} {fs:qX} {σ σ₁ σ₂:St} {c y z:PySem.Str} {t:Tell} {v:V} {x:Int} {Q:Fl→St→Prop}
theorem qWx (hz:CodeOk z):(Tx.flat (zF z)).length=z.length:=by
 have:=congrArg (fun s:PySem.Str=>s.cps.toList.length) hz.txt
 have h2:z.cps.toList.length=z.length:=Array.length_toList
 rw [← h2,← this]
 show _=(Tx.flat (zF z)).toArray.toList.length
 rfl
theorem zBe {o:Option Nat}:posV o=optV (o.map fun p=>(p:Int)):=by cases o <;> rfl
theorem zNa {o:Option Int}:∃ D,dat H 8 (optV o)=some D∧D.canLay0=true:=by
 cases o with
 | none=>exact ⟨.none,rfl,rfl⟩
 | some i=>exact ⟨.int i,rfl,rfl⟩
theorem zLb (h:Inv σ c k v) (hx:σ.loc.lookup ("x" : PySem.Str)=some (.int x)):Gd (ex a4S (T pp 6) σ) fun f σ'=>f=.next∧∃ c k v,Inv σ' c k v:=by
 have hz:=uC h.mem
 obtain ⟨i,hi,e⟩:=yY (b:=2) (by decide) (x.fdiv 5)
 obtain ⟨u,hu⟩:=h.base.o1
 unfold a4S
 have eb:ev (T pp 6).toCx (.bin .Mod (.bin .FloorDiv (.var "x") (.int 5)) (.int 2)) σ=.ok (.int (i:Nat)) σ :=
  (qGe (qEm (qB hx)) (show ev (T pp 6).toCx (.int 2) σ=.ok (.int 2) σ from rfl) (by decide)).trans (by rw [show (2:Int)=((2:Nat):Int) from rfl,e])
 have hs:σ.setC "bar" (.int (i:Nat))=some { σ with toHp:=hput σ.toHp 1 (.cell (some (.int (i:Nat)))) }:=by
  show (σ.cel.lookup ("bar" : PySem.Str)).bind _=_
  rw [h.base.cel]
  show (if qWg (σ.obj 1)=true then _ else none)=_
  rw [hu]; rfl
 refine qF (zEz eb hs ?_)
 have sm:Sm σ.toHp (hput σ.toHp 1 (.cell (some (.int (i:Nat))))):=⟨Nat.le_refl _,fun j _ hc=>zK fun q=>hc u (by rw [q]; exact hu)⟩
 have h1:Inv { σ with toHp:=hput σ.toHp 1 (.cell (some (.int (i:Nat)))) } c k v :=
  ⟨h.base.heap (Nat.le_refl _) (zK (by decide)) ⟨_,vF⟩,h.mem,h.code,h.parser,h.kept,h.par.move sm⟩
 have ho:({ σ with toHp:=hput σ.toHp 1 (.cell (some (.int (i:Nat)))) }:St).obj 1=some (.cell (some (.int (i:Nat)))):=vF
 generalize ({ σ with toHp:=hput σ.toHp 1 (.cell (some (.int (i:Nat)))) }:St)=τ at h1 ho ⊢
 obtain ⟨d,fs,m,A⟩:=h1.par.any
 obtain ⟨r,hr,er⟩:∃ r,findF c (i:Nat)=some r∧posV r=optV (placeN (rowsT c) (i:Nat)):=by
  have:qCb c (i:Nat)=some (placeN (rowsT c) (i:Nat)):=by
   have:i=0∨i=1:=by lia
   rcases this with rfl | rfl
   ·exact hz.f0
   ·exact hz.f1
  obtain ⟨r,h1,h2⟩:=Option.map_eq_some_iff.mp this
  exact ⟨r,h1,by rw [zBe,h2]⟩
 obtain ⟨σ1,b1,b2⟩:=qWy (pp:=pp) (n:=5) (qTj (pp:=pp) (n:=4) ho h1.base.cel) A.po A.code hr
 rw [er] at b1
 have el:ev (T pp 6).toCx (.lam ["place"] (.cmp .Lt (.var "place") (.cv "bar"))) τ=.ok (.clo ["place"] zKv τ.cel) τ:=by
  rw [zFi]
  show qQu τ _=_
  unfold qQu
  rw [h1.base.tbl]
  dsimp only
  rw [h1.base.o0]
  exact if_pos rfl
 refine gd_sasg (zD (qB h1.parser) (A.get (by rfl)) (qD el rfl) b1) ?_
 rw [b2]
 have h2:=h1.set (y:="told") (u:=optV (placeN (rowsT c) (i:Nat))) (by decide)
 have ht:(τ.set "told" (optV (placeN (rowsT c) (i:Nat)))).loc.lookup ("told" : PySem.Str)=some (optV (placeN (rowsT c) (i:Nat))):=qE
 have ho2:(τ.set "told" (optV (placeN (rowsT c) (i:Nat)))).obj 1=some (.cell (some (.int (i:Nat)))):=ho
 show Gd (ex _ _ (τ.set "told" (optV (placeN (rowsT c) (i:Nat))))) _
 generalize τ.set "told" (optV (placeN (rowsT c) (i:Nat)))=ρ at h2 ht ho2 ⊢
 obtain ⟨σ3,d1,d2⟩:=qQe (pp:=pp) (n:=5) (H:=ρ.toHp) (rs:=rowsT c) (bar:=(i:Nat)) (by rw [qHf]; exact hz.few)
 have ea:ev (T pp 6).toCx (.call (.glob "_law_place") (.cons qUm (.cons (.cv "bar") .nil))) ρ=.ok (optV (placeN (rowsT c) (i:Nat))) { ρ with toHp:=σ3.toHp } :=
  zN (qP (by rw [bT.gl]; rfl)) (qD (qMs hz h2.code) (qD (qZj h2.base.cel ho2) rfl)) d1
 obtain ⟨D,q1,q2⟩:=zNa (H:=σ3.toHp) (o:=placeN (rowsT c) (i:Nat))
 refine qNm (qSv (qB ht) ea (qFc q1 q1 q2)) (fun q=>by cases q) fun _=>qG (qG ⟨rfl,c,k,v,h2.same d2⟩)
theorem zEe {l:List Nat} {ls:List (List Nat)} (h:l∈ls):l.length≤(Tx.flat ls).length:=by
 obtain ⟨a,b,rfl⟩:=List.append_of_mem h
 unfold Tx.flat
 rw [List.flatMap_append,List.length_append,List.flatMap_cons,List.length_append,List.length_append]
 lia
theorem qUo (hz:CodeOk z) (h:σ.loc.lookup ("code" : PySem.Str)=some (.str z)):ev (T pp n).toCx (.comp (.bin .Add (.var "row") (.str "\n")) "row" qUm (.bool true)) σ=.ok (.list ((xH z).map .str)) σ:=by
 have e2:=qMf (qCk (pp:=pp) n) (elt:=.bin .Add (.var "row") (.str "\n")) (x:="row") (fun v=>match v with | .str r=>.str (r++"\n") | v=>v) (qMs hz h) rfl (fun v hv=>by
  obtain ⟨r,hr,rfl⟩:=List.mem_map.mp hv
  obtain ⟨l,hl,rfl⟩:=List.mem_map.mp hr
  have:=zEe hl
  rw [qWx hz] at this
  refine yM (qB rfl) rfl ?_
  show (if (sT l).length+("\n" : PySem.Str).length≤sizeLine then _ else _)=_
  have h1:(sT l).length=l.length:=List.size_toArray
  have h2:("\n" : PySem.Str).length=1:=by decide +kernel
  rw [if_pos (by rw [h1,h2]; exact Nat.le_trans (Nat.add_le_add_right (Nat.le_trans this hz.len) 1) (by decide))]) (by rw [List.length_map,qHf]; exact Nat.le_trans hz.few (by decide))
 have e3:((rowsT z).map V.str).map (fun v=>match v with | .str r=>V.str (r++"\n") | v=>v)=(xH z).map .str:=by
  unfold rowsT xH
  rw [List.map_map,List.map_map,List.map_map]
  refine List.map_congr_left fun l _=>?_
  show V.str (sT l++"\n")=V.str (sT (l++[10]))
  refine congrArg V.str (Str.eq_of ?_)
  rw [nlS]
  show (l.toArray++#[10]).toList=(l++[10]).toArray.toList
  simp
 rw [e3] at e2
 exact e2
theorem qQa:(xH z).length=(zF z).length:=List.length_map ..
theorem qHs {l:List PySem.Str} {w:PySem.Str} {e:X} (he:ev (T pp n).toCx e σ=.ok (.list (l.map .str)) σ) (hj:yW (.str "") (.list (l.map .str))=fun H=>okH (.str w) H):ev (T pp n).toCx (.meth (.str "") "join" (.cons e .nil)) σ=.ok (.str w) σ:=by
 refine zD (σ':=⟨σ.toHp,[],[],none⟩) (vo:=.str "") rfl (wB bT zKb) (qD he rfl) ?_
 rw [bT.bl]
 show bapp _ "str.join" [.str "", .list (l.map .str)] _=_
 rw [qSg,hj]; rfl
theorem zLe (h:Inv σ c k v) (hx:σ.loc.lookup ("x" : PySem.Str)=some (.int x)):Gd (ex a1S (T pp 6) σ) fun f σ'=>f=.next∧∃ c k v,Inv σ' c k v:=by
 have hz:=uC h.mem
 unfold a1S
 refine qF (qFm (qUo hz h.code) ?_)
 have s1:Same σ.toHp (σ.toHp.add (.list ((xH c).map .str))):=⟨Nat.le_succ _,fun i hi=>if_neg (Nat.ne_of_lt hi)⟩
 have h1:=(h.same s1).set (y:="rows") (u:=.ref σ.nxt) (by decide)
 have g1:((σ.add (.list ((xH c).map .str))).set "rows" (.ref σ.nxt)).loc.lookup ("rows" : PySem.Str)=some (.ref σ.nxt):=qE
 have g2:((σ.add (.list ((xH c).map .str))).set "rows" (.ref σ.nxt)).loc.lookup ("x" : PySem.Str)=some (.int x):=qA (by decide) hx
 have g3:((σ.add (.list ((xH c).map .str))).set "rows" (.ref σ.nxt)).obj σ.nxt=some (.list ((xH c).map .str)):=if_pos rfl
 replace h1:Inv ((σ.add (.list ((xH c).map .str))).set "rows" (.ref σ.nxt)) c k v:=h1
 generalize (σ.add (.list ((xH c).map .str))).set "rows" (.ref σ.nxt)=τ at h1 g1 g2 g3 ⊢
 generalize σ.nxt=o at g1 g3
 obtain ⟨i,hi,e⟩:=yY (b:=(zF c).length+1) (Nat.zero_lt_succ _) (x.fdiv 5)
 have e1:ev (T pp 6).toCx (.bin .Mod (.bin .FloorDiv (.var "x") (.int 5)) (.bin .Add (.call (.glob "len") (.cons (.var "rows") .nil)) (.int 1))) τ=.ok (.int (i:Nat)) τ:=by
  have q:ev (T pp 6).toCx (.call (.glob "len") (.cons (.var "rows") .nil)) τ=.ok (.int ((zF c).length:Nat)) τ :=
   qMd (qB g1) (by
    have:=uT (b:=false) g3
    rw [uE,List.length_map,qQa] at this
    exact this)
  refine (qGe (qEm (qB g2)) (zG q (show ev (T pp 6).toCx (.int 1) τ=.ok (.int 1) τ from rfl)) (by lia)).trans ?_
  rw [show (((zF c).length:Nat):Int)+1=(((zF c).length+1:Nat):Int) from rfl,e]
 refine gd_sasg e1 ?_
 have h2:=h1.set (y:="number") (u:=.int (i:Nat)) (by decide)
 have k1:(τ.set "number" (.int (i:Nat))).loc.lookup ("rows" : PySem.Str)=some (.ref o):=qA (by decide) g1
 have k2:(τ.set "number" (.int (i:Nat))).loc.lookup ("number" : PySem.Str)=some (.int (i:Nat)):=qE
 have k3:(τ.set "number" (.int (i:Nat))).obj o=some (.list ((xH c).map .str)):=g3
 generalize τ.set "number" (.int (i:Nat))=ρ at h2 k1 k2 k3 ⊢
 have C:=hz.at (i:=i) (by lia)
 obtain ⟨w,w1,w2⟩:=C.j1
 have sl:∀ {lo hi:X} {l hh:V} {a b:Option Int} {τ:St},τ.loc.lookup ("rows" : PySem.Str)=some (.ref o)→τ.obj o=some (.list ((xH c).map .str))→ev (T pp 6).toCx lo τ=.ok l τ→ev (T pp 6).toCx hi τ=.ok hh τ→wF l=some a→wF hh=some b →
   ev (T pp 6).toCx (.slc (.var "rows") lo hi) τ=.ok (.list (cut ((xH c).map .str) a b)) τ:=fun {lo hi l hh a b τ} q0 q00 q1 q2 q3 q4=>by
  refine yJ (qB q0) q1 q2 ?_
  show ((wF l).elim Ov.bad fun l=>(wF hh).elim .bad fun h=>(asO (τ.obj o)).elim .bad fun xs=>.ok (.list (cut xs l h)))=_
  rw [q3,q4,q00]; rfl
 have e2:ev (T pp 6).toCx (.call (.glob "len") (.cons (.meth (.str "") "join" (.cons (.slc (.var "rows") .none (.var "number")) .nil)) .nil)) ρ=.ok (.int (Tx.stA (zF c) i:Nat)) ρ:=by
  have q:=sl (a:=none) (b:=some (i:Nat)) k1 k3 (show ev (T pp 6).toCx .none ρ=.ok .none ρ from rfl) (qB k2) rfl rfl
  rw [qLj,← List.map_take] at q
  refine qMd (qHs q w2) ?_
  rw [← w1]; rfl
 obtain ⟨d,fs,m,A⟩:=h2.par.any
 obtain ⟨σ1,b1,fs',b2,b3,b4,b5⟩:=qPq (pp:=pp) (n:=5) C A.po A.kx A.m3 A.code
 refine zQ (zD (qB h2.parser) (A.get (by rfl)) (qD e2 rfl) b1) ?_
 have hK:Kept ρ.toHp σ1.toHp d:=by rw [b2]; exact Kept.refl.put
 have hB:=h2.base.kept hK A.po.dict
 have hod:o≠d:=fun q=>by
  have:=A.po.dict
  rw [← q,k3] at this; cases this
 have k3':({ ρ with toHp:=σ1.toHp }:St).obj o=some (.list ((xH c).map .str)):=by
  show σ1.obj o=_
  rw [b2,zK hod]; exact k3
 have q:=sl (τ:={ ρ with toHp:=σ1.toHp }) (a:=some (i:Nat)) (b:=none) k1 k3' (qB k2) (show ev (T pp 6).toCx .none { ρ with toHp:=σ1.toHp }=.ok .none { ρ with toHp:=σ1.toHp } from rfl) rfl rfl
 rw [zKs,← List.map_drop] at q
 refine gd_sasg (qHs q C.j2) (qG ⟨rfl,vE c i,k,v,?_⟩)
 refine ⟨hB.set (by decide),C.mem,qE,qA (by decide) h2.parser,qA (by decide) h2.kept,A.back hK ?_ b3 b4 b5⟩
 show PO σ1.toHp k d fs'
 rw [b2]; exact A.po.put
end
section
variable {pp:Params} {n k d j:Nat} {H H':Hp} {fs:qX} {σ σ₁ σ₂:St} {c y z:PySem.Str} {t:Tell} {v:V} {x:Int} {Q:Fl→St→Prop}
theorem qAz:∀ {l:List PyData},(∀ d∈l,d.canLay0=true)→PyData.canLayAll0 l=true
 | [],_=>rfl
 | a::l,h=>by
  rw [PyData.canLayAll0,h a (.head _),qAz fun d hd=>h d (.tail _ hd)]; rfl
noncomputable def qLi (l:List (Int×Int)):List PyData:=l.map fun p=>.tuple [.int p.1,.int p.2]
theorem qNu {m:Nat}:∀ l:List (Int×Int),(kL l).mapM (dat H (m+2))=some (qLi l)
 | []=>rfl
 | a::l=>by
  show (V.tup [.int a.1,.int a.2]::kL l).mapM (dat H (m+2))=_
  rw [List.mapM_cons,qNu l]; rfl
noncomputable def qLh (l:List Nat):List PyData:=(l.map fun n:Nat=>(n:Int)).map .int
theorem zFn {m:Nat} {l:List Nat}:(qI l).mapM (dat H (m+1))=some (qLh l):=by
 rw [show qI l=(l.map fun n:Nat=>(n:Int)).map V.int from (List.map_map ..).symm]
 exact qCf _
noncomputable def qFu (t:Tell):PyData:=.list [.int (t.c:Nat),.bool (decide (t.s.last = ":")),.tuple (qLi t.s.brk),.list (qLh t.gl)]
theorem qIl (h:H.obj j=some (.list (qI t.gl))):dat H 8 (kH t j)=some (qFu t):=by
 have e3:dat H 7 (.tup (kL t.s.brk))=some (.tuple (qLi t.s.brk)):=by
  show ((kL t.s.brk).mapM (dat H 6)).map PyData.tuple=_
  rw [qNu]; rfl
 have e4:dat H 7 (.ref j)=some (.list (qLh t.gl)):=by
  show (asO (H.obj j)).bind (fun xs=>(xs.mapM (dat H 6)).map PyData.list)=_
  rw [h]
  show ((qI t.gl).mapM (dat H 6)).map PyData.list=_
  rw [zFn]; rfl
 have e1:dat H 7 (.int (t.c:Nat))=some (.int (t.c:Nat)):=rfl
 have e2:dat H 7 (.bool (decide (t.s.last = ":")))=some (.bool (decide (t.s.last = ":"))):=rfl
 show (List.mapM (dat H 7) [.int (t.c:Nat),.bool (decide (t.s.last = ":")),.tup (kL t.s.brk),.ref j]).map PyData.list=_
 rw [List.mapM_cons,e1,List.mapM_cons,e2,List.mapM_cons,e3,List.mapM_cons,e4]
 rfl
theorem qYi:(qFu t).canLay0=true:=by
 unfold qFu
 rw [PyData.canLay0]
 refine qAz fun d hd=>?_
 simp only [List.mem_cons,List.not_mem_nil,or_false] at hd
 rcases hd with rfl | rfl | rfl | rfl
 ·rfl
 ·rfl
 ·rw [PyData.canLay0]
  refine qAz fun d hd=>?_
  obtain ⟨p,_,rfl⟩:=List.mem_map.mp hd
  rfl
 ·rw [PyData.canLay0]
  refine qAz fun d hd=>?_
  obtain ⟨p,_,rfl⟩:=List.mem_map.mp hd
  rfl
theorem qZl {cx:Cx} {f as:X} {vf v:V} {xs:List V} {σ':St} (hf:ev cx f σ=.ok vf σ) (ha:ev cx as σ=.ok (.list xs) σ₁) (h:cx.app vf xs σ₁.toHp=.ok v σ'):ev cx (.call f as) σ=.ok v { σ₁ with toHp:=σ'.toHp }:=by
 rw [qIe,Rs.bind_ok hf,Rs.bind_ok ha]
 show (cx.app vf xs σ₁.toHp).lift σ₁=_
 rw [h]; rfl
theorem Same.kept {H₁ H₂:Hp} (h:Same H H₁) (h':Kept H₁ H₂ H.nxt):Same H H₂ :=
 ⟨Nat.le_trans h.1 h'.nxt,fun i hi=>(h'.same i (Nat.lt_of_lt_of_le hi h.1) (Nat.ne_of_lt hi)).trans (h.2 i hi)⟩
noncomputable def a2E:S:=.seq (.ite (.cmp .NotEq (.call (.glob "_law_four") (.cons (.var "parser") .nil)) (.var "kept")) (.seq (.ret (.bool false)) .nil) .nil) .nil
noncomputable abbrev Pn (f:Fl) (σ':St):Prop:=f=.next∧∃ c k v,Inv σ' c k v
theorem qYy {j':Nat} {σ':St} (hb:Base { σ with toHp:=σ'.toHp }) (hc:c∈codes) (h1:σ.loc.lookup ("code" : PySem.Str)=some (.str c)) (h2:σ.loc.lookup ("parser" : PySem.Str)=some (.ref k)) (h3:σ.loc.lookup ("kept" : PySem.Str)=some (kH t j'))
  (ha:(T pp 6).app (.top (.ref 260)) [.ref k] σ.toHp=.ok (kH t j) σ') (hp:Par2 σ'.toHp k d fs c t j) (hj:σ'.obj j'=some (.list (qI t.gl))) (hn:j' < σ'.nxt):Gd (ex a2E (T pp 6) σ) Pn:=by
 have e:ev (T pp 6).toCx (.call (.glob "_law_four") (.cons (.var "parser") .nil)) σ=.ok (kH t j) { σ with toHp:=σ'.toHp }:=zN (qP (by rw [bT.gl]; rfl)) (qD (qB h2) rfl) ha
 exact qNm (qSv e (qB (σ:={ σ with toHp:=σ'.toHp }) h3) (qFc (qIl hp.gl) (qIl hj) qYi)) (fun q=>by cases q) fun _=>qG (qG ⟨rfl,c,k,_,hb,hc,h1,h2,h3,.old hp hj hn⟩)
theorem zLd (h:Inv σ c k v):Gd (ex a2S (T pp 6) σ) Pn:=by
 have hz:=uC h.mem
 obtain ⟨b1,b2,b3,b4,b5,b6⟩:=h
 cases b6 with
 | @new d fs p =>
  obtain ⟨t,ht⟩:=hz.told
  unfold a2S
  refine qJ (t:=true) (kN (qB b5) (show ev (T pp 6).toCx .none σ=.ok .none σ from rfl) rfl) (fun _=>?_) fun q=>by cases q
  obtain ⟨σ1,f1,f2,fs1,f3⟩:=qEb (pp:=pp) (n:=3) (H:=σ.toHp) hz
  obtain ⟨σ2,j,fs2,f4,f5,f6⟩:=qEc (pp:=pp) (n:=2) hz f3 ht
  have sm:=f2.kept f5
  have e1:ev (T pp 6).toCx (.call (.glob "_law_four") (.cons (.call (.glob "_law_fresh") (.cons (.var "code") .nil)) .nil)) σ=.ok (kH t j) { σ with toHp:=σ2.toHp } :=
   qZl (σ₁:={ σ with toHp:=σ1.toHp }) (qP (by rw [bT.gl]; rfl)) (yL (zN (qP (by rw [bT.gl]; rfl)) (qD (qB b3) rfl) f1) rfl) f4
  refine gd_sasg e1 ?_
  have c1:Base (({ σ with toHp:=σ2.toHp }:St).set "kept" (kH t j)):=(b1.same sm).set (by decide)
  have c2:(({ σ with toHp:=σ2.toHp }:St).set "kept" (kH t j)).loc.lookup ("code" : PySem.Str)=some (.str c):=qA (by decide) b3
  have c3:(({ σ with toHp:=σ2.toHp }:St).set "kept" (kH t j)).loc.lookup ("parser" : PySem.Str)=some (.ref k):=qA (by decide) b4
  have c4:(({ σ with toHp:=σ2.toHp }:St).set "kept" (kH t j)).loc.lookup ("kept" : PySem.Str)=some (kH t j):=qE
  have c5:Par0 (({ σ with toHp:=σ2.toHp }:St).set "kept" (kH t j)).toHp k d fs c:=p.move sm.sm
  have c6:(({ σ with toHp:=σ2.toHp }:St).set "kept" (kH t j)).obj j=some (.list (qI t.gl)):=f6.gl
  have c7:j < (({ σ with toHp:=σ2.toHp }:St).set "kept" (kH t j)).nxt:=f6.jn
  generalize ({ σ with toHp:=σ2.toHp }:St).set "kept" (kH t j)=τ at c1 c2 c3 c4 c5 c6 c7 ⊢
  obtain ⟨σ3,g1,g2⟩:=qZm (pp:=pp) (n:=5) (H:=τ.toHp) (z:=c)
  have e2:ev (T pp 6).toCx (.call (.glob "_law_two") (.cons (.var "code") .nil)) τ=.ok (.list [.int (t.c:Nat),.bool (decide (t.s.last = ":"))]) τ:=by
   have:=zN (σ:=τ) (qP (x:="_law_two") (cx:=(T pp 6).toCx) (v:=.top (.ref 274)) (by rw [bT.gl]; rfl)) (show ev (T pp 6).toCx (.cons (.var "code") .nil) τ=.ok (.list [.str c]) τ from qD (qB c2) rfl) g1
   rw [g2,ht.two] at this
   exact this
  have e3:ev (T pp 6).toCx (.slc (.var "kept") .none (.int 2)) τ=.ok (.list [.int (t.c:Nat),.bool (decide (t.s.last = ":"))]) τ :=
   yJ (qB c4) (show ev (T pp 6).toCx .none τ=.ok .none τ from rfl) (show ev (T pp 6).toCx (.int 2) τ=.ok (.int 2) τ from rfl) rfl
  refine qJ (t:=false) (kN e3 e2 (qFc (D:=.list [.int (t.c:Nat),.bool (decide (t.s.last = ":"))]) rfl rfl rfl)) (fun q=>by cases q) fun _=>qG ?_
  obtain ⟨σ4,j4,fs4,k1,k2,k3⟩:=qEc (pp:=pp) (n:=2) hz c5 ht
  have hjd:j≠d:=fun q=>by
   have:=c5.po.dict
   rw [← q,c6] at this; cases this
  exact qYy (c1.kept k2 c5.po.dict) b2 c2 c3 c4 k1 k3 ((k2.same j c7 hjd).trans c6) (Nat.lt_of_lt_of_le c7 k2.nxt)
 | @old d fs t j j' p q l =>
  unfold a2S
  refine qJ (t:=false) (kN (qB b5) (show ev (T pp 6).toCx .none σ=.ok .none σ from rfl) rfl) (fun q=>by cases q) fun _=>?_
  obtain ⟨σ4,k1,k2⟩:=qRc (pp:=pp) (n:=2) p
  exact qYy (by rw [k2]; exact b1) b2 b3 b4 b5 k1 (by rw [k2]; exact p) (by rw [k2]; exact q) (by rw [k2]; exact l)
theorem qYb (h:Inv σ c k v) (hx:σ.loc.lookup ("x" : PySem.Str)=some (.int x)):Gd (ex qSz (T pp 6) σ) Pn:=by
 have em:∀ i:Int,ev (T pp 6).toCx (.cmp .Eq (.bin .Mod (.var "x") (.int 5)) (.int i)) σ=.ok (.bool (x.fmod 5 == i)) σ:=fun i =>
  jN (qGe (qB hx) (show ev (T pp 6).toCx (.int 5) σ=.ok (.int 5) σ from rfl) (by decide)) (show ev (T pp 6).toCx (.int i) σ=.ok (.int i) σ from rfl)
 have nil:∀ {a:S},Gd (ex a (T pp 6) σ) Pn→Gd (ex (.seq a .nil) (T pp 6) σ) Pn:=fun g=>zX (g.mono fun f σ' q=>by
  obtain ⟨rfl,w⟩:=q
  exact qG ⟨rfl,w⟩)
 have tb:∀ b:Bool,zT σ.toHp (.bool b)=some b:=fun b=>by cases b <;> rfl
 unfold qSz
 refine zX ((show Gd (ex (.ite _ _ _) (T pp 6) σ) Pn from vP (em 0) (tb _) (fun _=>zLf h hx) fun _=>nil (vP (em 1) (tb _) (fun _=>zLe h hx) fun _=>nil (vP (em 2) (tb _) (fun _=>zLd h) fun _=>nil
  (vP (em 3) (tb _) (fun _=>zLc h hx) fun _=>zLb h hx)))).mono fun f σ' q=>?_)
 obtain ⟨rfl,c,k,v,w⟩:=q
 obtain ⟨d,fs,m,A⟩:=w.par.any
 have e:=zGm (zR (qB (cx:=(T pp 6).toCx) w.parser) (A.po.fld bT (by decide) A.code rfl)) (qB w.code)
 rw [show decide (c=c)=true from decide_eq_true rfl] at e
 exact qJ (t:=false) e (fun q=>by cases q) fun _=>qG ⟨rfl,c,k,v,w⟩
theorem zBm {cx:Cx} {a b:X} {xs ys:List V} (ha:ev cx a σ=.ok (.list xs) σ) (hb:ev cx b σ=.ok (.list ys) σ):ev cx (.or a b) σ=.ok (.list (if xs=[] then ys else xs)) σ:=by
 rw [qXd,Rs.bind_ok ha]
 cases xs with
 | nil=>exact hb
 | cons a l=>rfl
theorem qIx {cx:Cx} {a b:X} {xs ys:List V} (ha:ev cx a σ=.ok (.list xs) σ) (hb:ev cx b σ=.ok (.list ys) σ) (h:xs.length+ys.length≤100):ev cx (.bin .Add a b) σ=.ok (.list (xs++ys)) σ :=
 yM ha hb (if_pos (Nat.le_trans h (by decide)))
theorem zMd {ns:List Int} (h:σ.loc.lookup ("script" : PySem.Str)=some (.list (ns.map .int))):∃ xs,ev (T pp 6).toCx itX σ=.ok (.list xs) σ∧∀ y∈xs,∃ i:Int,y=.int i:=by
 have e1:ev (T pp 6).toCx (.slc (.var "script") .none (.int 20)) σ=.ok (.list ((ns.take 20).map .int)) σ:=by
  refine yJ (qB h) (show ev (T pp 6).toCx .none σ=.ok .none σ from rfl) (show ev (T pp 6).toCx (.int 20) σ=.ok (.int 20) σ from rfl) ?_
  show Ov.ok (.list (cut (ns.map .int) none (some ((20:Nat):Int))))=_
  rw [qLj,List.map_take]
 have e2:=zBm e1 (b:=.list (.cons (.int 6) (.cons (.int 2) (.cons (.int 3) (.cons (.int 10) .nil))))) (vI (qD rfl (qD rfl (qD rfl (qD rfl rfl)))) (by show 4≤sizeLine; decide))
 generalize hm:(if (ns.take 20).map V.int=[] then [V.int 6,V.int 2,V.int 3,V.int 10] else (ns.take 20).map V.int)=ms at e2
 have hl:ms.length≤20∧∀ y∈ms,∃ i:Int,y=.int i:=by
  rw [← hm]
  split
  ·refine ⟨by decide,fun y hy=>?_⟩
   simp only [List.mem_cons,List.not_mem_nil,or_false] at hy
   rcases hy with rfl | rfl | rfl | rfl <;> exact ⟨_,rfl⟩
  ·refine ⟨by rw [List.length_map,List.length_take]; exact Nat.min_le_left ..,fun y hy=>?_⟩
   obtain ⟨i,_,rfl⟩:=List.mem_map.mp hy
   exact ⟨i,rfl⟩
 have two:ev (T pp 6).toCx (.list (.cons (.int 2) .nil)) σ=.ok (.list [.int 2]) σ:=vI (qD rfl rfl) (by show 1≤sizeLine; decide)
 refine ⟨[V.int 2]++ms++[V.int 2],qIx (qIx two e2 (by show 1+ms.length≤100; lia)) two (by rw [List.length_append]; show 1+ms.length+1≤100; lia),fun y hy=>?_⟩
 rw [List.mem_append,List.mem_append] at hy
 rcases hy with (hy | hy) | hy
 ·exact ⟨2,List.mem_singleton.mp hy⟩
 ·exact hl.2 y hy
 ·exact ⟨2,List.mem_singleton.mp hy⟩
end
theorem plain09:qOd:=by
 intro pp ns hns
 have h1:(start09 ns).loc.lookup ("script" : PySem.Str)=some (.list (ns.map .int)):=by rfl
 have h2:(start09 ns).cel.lookup ("bar" : PySem.Str)=some 1:=by rfl
 have h3:(start09 ns).tbl=some (0,lq):=by rfl
 have h4:(start09 ns).obj 0=some (.tab lq):=by rfl
 have h5:(start09 ns).obj 1=some (.cell none):=by rfl
 have h6:(start09 ns).nxt=2:=by rfl
 generalize start09 ns=σ at h1 h2 h3 h4 h5 h6 ⊢
 have main:Gd (ex qNd (T pp 6) σ) fun f σ'=>f=.ret (.bool true)∧σ'.obj 0=some (.tab lq):=by
  rw [zKe]
  refine gd_sasg (v:=.list (texts6.map .str)) (vI (qD rfl (qD rfl (qD rfl (qD rfl (qD rfl (qD rfl rfl)))))) (by show 6≤sizeLine; decide)) ?_
  refine gd_sasg (v:=.list (bads.map .str)) (vI (qD rfl (qD rfl (qD rfl (qD rfl rfl)))) (by show 4≤sizeLine; decide)) ?_
  refine gd_sasg (v:=.str "def f:\n  return (1,\n") (xZ (qB (qA (by decide) qE)) rfl (qBx (i:=0) (by decide) rfl)) ?_
  refine gd_sasg (v:=.none) rfl ?_
  have g1:((((σ.set "texts" (.list (texts6.map .str))).set "bad" (.list (bads.map .str))).set "code" (.str "def f:\n  return (1,\n")).set "kept" .none).loc.lookup ("script" : PySem.Str)=some (.list (ns.map .int)):=qA (by decide) (qA (by decide) (qA (by decide) (qA (by decide) h1)))
  have g2:((((σ.set "texts" (.list (texts6.map .str))).set "bad" (.list (bads.map .str))).set "code" (.str "def f:\n  return (1,\n")).set "kept" .none).loc.lookup ("texts" : PySem.Str)=some (.list (texts6.map .str)):=qA (by decide) (qA (by decide) (qA (by decide) qE))
  have g3:((((σ.set "texts" (.list (texts6.map .str))).set "bad" (.list (bads.map .str))).set "code" (.str "def f:\n  return (1,\n")).set "kept" .none).loc.lookup ("bad" : PySem.Str)=some (.list (bads.map .str)):=qA (by decide) (qA (by decide) qE)
  have g4:((((σ.set "texts" (.list (texts6.map .str))).set "bad" (.list (bads.map .str))).set "code" (.str "def f:\n  return (1,\n")).set "kept" .none).loc.lookup ("code" : PySem.Str)=some (.str "def f:\n  return (1,\n"):=qA (by decide) qE
  have g5:((((σ.set "texts" (.list (texts6.map .str))).set "bad" (.list (bads.map .str))).set "code" (.str "def f:\n  return (1,\n")).set "kept" .none).loc.lookup ("kept" : PySem.Str)=some .none:=qE
  have g6:Base ((((σ.set "texts" (.list (texts6.map .str))).set "bad" (.list (bads.map .str))).set "code" (.str "def f:\n  return (1,\n")).set "kept" .none):=⟨g2,g3,h2,h3,h4,⟨none,h5⟩,Nat.le_of_eq h6.symm⟩
  generalize (((σ.set "texts" (.list (texts6.map .str))).set "bad" (.list (bads.map .str))).set "code" (.str "def f:\n  return (1,\n")).set "kept" .none=τ at g1 g2 g3 g4 g5 g6 ⊢
  have hm:("def f:\n  return (1,\n" : PySem.Str)∈codes:=.head _
  generalize ("def f:\n  return (1,\n" : PySem.Str)=c at g4 hm
  obtain ⟨σ1,f1,f2,fs1,f3⟩:=qEb (pp:=pp) (n:=3) (H:=τ.toHp) (uC hm)
  refine gd_sasg (zN (qP (by rw [bT.gl]; rfl)) (qD (qB g4) rfl) f1) ?_
  have k1:(({ τ with toHp:=σ1.toHp }:St).set "parser" (.ref (τ.nxt+1))).loc.lookup ("script" : PySem.Str)=some (.list (ns.map .int)):=qA (by decide) g1
  have k2:Inv (({ τ with toHp:=σ1.toHp }:St).set "parser" (.ref (τ.nxt+1))) c (τ.nxt+1) .none:=⟨(g6.same f2).set (by decide),hm,qA (by decide) g4,qE,qA (by decide) g5,.new f3⟩
  generalize ({ τ with toHp:=σ1.toHp }:St).set "parser" (.ref (τ.nxt+1))=ρ at k1 k2 ⊢
  obtain ⟨xs,x1,x2⟩:=zMd (pp:=pp) k1
  refine qF (qFn (qCk 6) x1 (show xL ρ.toHp (.list xs)=some xs from rfl) (fun l σ=>(∀ y∈l,∃ i:Int,y=.int i)∧∃ c k v,Inv σ c k v) ⟨x2,_,_,_,k2⟩ (fun _ _ _=>rfl) ?_ ?_)
  ·rintro y r σ ⟨q,c,k,v,w⟩
   obtain ⟨i,rfl⟩:=q y (.head _)
   refine (qYb (w.set (y:="x") (u:=.int i) (by decide)) qE).mono fun f σ' u=>?_
   obtain ⟨rfl,u⟩:=u
   exact ⟨fun z hz=>q z (.tail _ hz),u⟩
  ·rintro σ ⟨_,c,k,v,w⟩
   exact qF (xN (σ₁:=σ) rfl ⟨rfl,w.base.o0⟩)
 obtain ⟨f,σ',e,rfl,w⟩:=main
 exact ⟨σ',e,w⟩
end Mine.Lake.L09
end
set_option maxRecDepth 100000 in
theorem PySem.Challenge.cw_dm0167_07_holds : PySem.Challenge.rw_dm0167_07.Holds :=
 Mine.Lake.L09.joined Mine.Lake.L09.plain09
