import PyProof.Rows.All
import Wide.All
import OpenK.AllK
import Wide.FinOn
import PySem.Challenge.RW_ny0026_01
set_option Elab.async false
section
open PySem PySem.W
set_option maxRecDepth 100000
set_option linter.unusedVariables false
namespace Mine
abbrev pP : Program := PySem.Challenge.pw_ny0026_01
def stA (i : Nat) : Stmt := pP.main.body.getD i (.Pass ⟨0, 0, 0, 0⟩)
def fnP (i : Nat) : Arguments := match stA i with | .FunctionDef _ a .. => a | _ => ⟨[], [], none, [], [], none, []⟩
def fnB (i : Nat) : List Stmt := match stA i with | .FunctionDef _ _ b .. => b | _ => []
def fnS (i : Nat) : Scope := match stA i with | .FunctionDef _ _ _ _ _ _ s .. => s | _ => default
noncomputable def ob11v0 (_ : Params) : Obj := { cls := Value.type "tuple", data := Data.seq #[] }
noncomputable def ob12v0 (_ : Params) : Obj := { cls := Value.none, data := Data.fields #[] }
noncomputable def ob13v0 (_ : Params) : Obj := { cls := Value.type "code", data := Data.fields #[Value.str (Str.ofString "<module>") 182, Value.str (Str.ofString "<module>") 183, Value.str (Str.ofString "/claim/cut.py") 184, Value.int 1 0, Value.int 0 0, Value.int 0 0, Value.int 0 0, Value.int 0 0, Value.ref 11, Value.bool false, Value.int 181 0, Value.ref 12, Value.none, Value.none, Value.none, Value.none, Value.int 185 0, Value.int 1 0, Value.str (Str.ofString "/claim/cut.py") 186] }
noncomputable def ob14v0 (_ : Params) : Obj := { cls := Value.type "frame", slots := #[some (Value.ref 13), some (Value.ref 3), some (Value.ref 3), none, some (Value.str (Str.ofString "__main__") 164), none, some (Value.ref 0)] }
noncomputable def ob3v0 (P : Params) : Obj := { cls := Value.type "dict", data := Data.dict #[{ hash := PyData.keyHash P (Str.ofString "__name__"), key := Value.str (Str.ofString "__name__") 165, val := Value.str (Str.ofString "cpy313.dis") 187 }, { hash := PyData.keyHash P (Str.ofString "__doc__"), key := Value.str (Str.ofString "__doc__") 166, val := Value.none }, { hash := PyData.keyHash P (Str.ofString "__package__"), key := Value.str (Str.ofString "__package__") 167, val := Value.none }, { hash := PyData.keyHash P (Str.ofString "__loader__"), key := Value.str (Str.ofString "__loader__") 168, val := Value.builtin "__main__.__loader__#opaque" }, { hash := PyData.keyHash P (Str.ofString "__spec__"), key := Value.str (Str.ofString "__spec__") 169, val := Value.none }, { hash := PyData.keyHash P (Str.ofString "__annotations__"), key := Value.str (Str.ofString "__annotations__") 170, val := Value.ref 6 }, { hash := PyData.keyHash P (Str.ofString "__builtins__"), key := Value.str (Str.ofString "__builtins__") 171, val := Value.ref 4 }, { hash := PyData.keyHash P (Str.ofString "__file__"), key := Value.str (Str.ofString "__file__") 173, val := Value.str (Str.ofString "/claim/cut.py") 172 }, { hash := PyData.keyHash P (Str.ofString "__cached__"), key := Value.str (Str.ofString "__cached__") 174, val := Value.none }, { hash := PyData.keyHash P (Str.ofString "_NO_LINENO"), key := Value.str (Str.ofString "_NO_LINENO") 190, val := Value.str (Str.ofString "  --") 189 }, { hash := PyData.keyHash P (Str.ofString "_get_lineno_width"), key := Value.str (Str.ofString "_get_lineno_width") 199, val := Value.ref 21 }] 11 }
noncomputable def ob12v1 (_ : Params) : Obj := { cls := Value.none, data := Data.fields #[Value.int 3 0, Value.int 0 0, Value.ref 20] }
noncomputable def ob15v0 (_ : Params) : Obj := { cls := Value.type "tuple", data := Data.seq #[] }
noncomputable def ob16v0 (_ : Params) : Obj := { cls := Value.none, data := Data.fields #[] }
noncomputable def ob17v0 (_ : Params) : Obj := { cls := Value.type "tuple", data := Data.seq #[Value.str (Str.ofString "linestarts") 194, Value.str (Str.ofString "maxlineno") 195, Value.str (Str.ofString "lineno_width") 196] }
noncomputable def ob18v0 (_ : Params) : Obj := { cls := Value.type "tuple", data := Data.seq #[] }
noncomputable def ob19v0 (_ : Params) : Obj := { cls := Value.none, data := Data.func { name := Str.ofString "_get_lineno_width", qualname := Str.ofString "_get_lineno_width", params := fnP 2, body := FuncBody.stmts (fnB 2), scope := fnS 2, globals := 0, closure := [], defaults := Value.none, kwdefaults := Value.none } }
noncomputable def ob20v0 (_ : Params) : Obj := { cls := Value.type "code", data := Data.fields #[Value.str (Str.ofString "_get_lineno_width") 191, Value.str (Str.ofString "_get_lineno_width") 192, Value.str (Str.ofString "/claim/cut.py") 193, Value.int 3 0, Value.int 1 0, Value.int 0 0, Value.int 0 0, Value.int 3 0, Value.ref 15, Value.bool true, Value.int 181 0, Value.ref 16, Value.none, Value.ref 17, Value.ref 18, Value.ref 19, Value.int 197 0, Value.int 3 0, Value.str (Str.ofString "/claim/cut.py") 198] }
noncomputable def ob21v0 (_ : Params) : Obj := { cls := Value.type "function", data := Data.func { name := Str.ofString "_get_lineno_width", qualname := Str.ofString "_get_lineno_width", params := fnP 2, body := FuncBody.stmts (fnB 2), scope := fnS 2, globals := 3, closure := [], defaults := Value.none, kwdefaults := Value.none, pyModule := Value.str (Str.ofString "cpy313.dis") 187, code := Value.ref 20 } }
noncomputable def ob3v1 (P : Params) : Obj := { cls := Value.type "dict", data := Data.dict #[{ hash := PyData.keyHash P (Str.ofString "__name__"), key := Value.str (Str.ofString "__name__") 165, val := Value.str (Str.ofString "cpy313.dis") 187 }, { hash := PyData.keyHash P (Str.ofString "__doc__"), key := Value.str (Str.ofString "__doc__") 166, val := Value.none }, { hash := PyData.keyHash P (Str.ofString "__package__"), key := Value.str (Str.ofString "__package__") 167, val := Value.none }, { hash := PyData.keyHash P (Str.ofString "__loader__"), key := Value.str (Str.ofString "__loader__") 168, val := Value.builtin "__main__.__loader__#opaque" }, { hash := PyData.keyHash P (Str.ofString "__spec__"), key := Value.str (Str.ofString "__spec__") 169, val := Value.none }, { hash := PyData.keyHash P (Str.ofString "__annotations__"), key := Value.str (Str.ofString "__annotations__") 170, val := Value.ref 6 }, { hash := PyData.keyHash P (Str.ofString "__builtins__"), key := Value.str (Str.ofString "__builtins__") 171, val := Value.ref 4 }, { hash := PyData.keyHash P (Str.ofString "__file__"), key := Value.str (Str.ofString "__file__") 173, val := Value.str (Str.ofString "/claim/cut.py") 172 }, { hash := PyData.keyHash P (Str.ofString "__cached__"), key := Value.str (Str.ofString "__cached__") 174, val := Value.none }, { hash := PyData.keyHash P (Str.ofString "_NO_LINENO"), key := Value.str (Str.ofString "_NO_LINENO") 190, val := Value.str (Str.ofString "  --") 189 }, { hash := PyData.keyHash P (Str.ofString "_get_lineno_width"), key := Value.str (Str.ofString "_get_lineno_width") 199, val := Value.ref 21 }, { hash := PyData.keyHash P (Str.ofString "_QUOPRI_MAP"), key := Value.str (Str.ofString "_QUOPRI_MAP") 1227, val := Value.ref 24 }] 12 }
noncomputable def ob22v0 (_ : Params) : Obj := { cls := Value.type "range", data := Data.fields #[Value.int 0 201, Value.int 256 200, Value.int 1 202] }
noncomputable def ob23v0 (_ : Params) : Obj := { cls := Value.type "range_iterator", data := Data.fields #[Value.int 256 0, Value.int 0 0, Value.int 1 0] }
noncomputable def ob24v0 (_ : Params) : Obj := { cls := Value.type "list", data := Data.seq #[Value.str (Str.ofString "=00") 206, Value.str (Str.ofString "=01") 210, Value.str (Str.ofString "=02") 214, Value.str (Str.ofString "=03") 218, Value.str (Str.ofString "=04") 222, Value.str (Str.ofString "=05") 226, Value.str (Str.ofString "=06") 230, Value.str (Str.ofString "=07") 234, Value.str (Str.ofString "=08") 238, Value.str (Str.ofString "=09") 242, Value.str (Str.ofString "=0A") 246, Value.str (Str.ofString "=0B") 250, Value.str (Str.ofString "=0C") 254, Value.str (Str.ofString "=0D") 258, Value.str (Str.ofString "=0E") 262, Value.str (Str.ofString "=0F") 266, Value.str (Str.ofString "=10") 270, Value.str (Str.ofString "=11") 274, Value.str (Str.ofString "=12") 278, Value.str (Str.ofString "=13") 282, Value.str (Str.ofString "=14") 286, Value.str (Str.ofString "=15") 290, Value.str (Str.ofString "=16") 294, Value.str (Str.ofString "=17") 298, Value.str (Str.ofString "=18") 302, Value.str (Str.ofString "=19") 306, Value.str (Str.ofString "=1A") 310, Value.str (Str.ofString "=1B") 314, Value.str (Str.ofString "=1C") 318, Value.str (Str.ofString "=1D") 322, Value.str (Str.ofString "=1E") 326, Value.str (Str.ofString "=1F") 330, Value.str (Str.ofString "=20") 334, Value.str (Str.ofString "=21") 338, Value.str (Str.ofString "=22") 342, Value.str (Str.ofString "=23") 346, Value.str (Str.ofString "=24") 350, Value.str (Str.ofString "=25") 354, Value.str (Str.ofString "=26") 358, Value.str (Str.ofString "=27") 362, Value.str (Str.ofString "=28") 366, Value.str (Str.ofString "=29") 370, Value.str (Str.ofString "=2A") 374, Value.str (Str.ofString "=2B") 378, Value.str (Str.ofString "=2C") 382, Value.str (Str.ofString "=2D") 386, Value.str (Str.ofString "=2E") 390, Value.str (Str.ofString "=2F") 394, Value.str (Str.ofString "=30") 398, Value.str (Str.ofString "=31") 402, Value.str (Str.ofString "=32") 406, Value.str (Str.ofString "=33") 410, Value.str (Str.ofString "=34") 414, Value.str (Str.ofString "=35") 418, Value.str (Str.ofString "=36") 422, Value.str (Str.ofString "=37") 426, Value.str (Str.ofString "=38") 430, Value.str (Str.ofString "=39") 434, Value.str (Str.ofString "=3A") 438, Value.str (Str.ofString "=3B") 442, Value.str (Str.ofString "=3C") 446, Value.str (Str.ofString "=3D") 450, Value.str (Str.ofString "=3E") 454, Value.str (Str.ofString "=3F") 458, Value.str (Str.ofString "=40") 462, Value.str (Str.ofString "=41") 466, Value.str (Str.ofString "=42") 470, Value.str (Str.ofString "=43") 474, Value.str (Str.ofString "=44") 478, Value.str (Str.ofString "=45") 482, Value.str (Str.ofString "=46") 486, Value.str (Str.ofString "=47") 490, Value.str (Str.ofString "=48") 494, Value.str (Str.ofString "=49") 498, Value.str (Str.ofString "=4A") 502, Value.str (Str.ofString "=4B") 506, Value.str (Str.ofString "=4C") 510, Value.str (Str.ofString "=4D") 514, Value.str (Str.ofString "=4E") 518, Value.str (Str.ofString "=4F") 522, Value.str (Str.ofString "=50") 526, Value.str (Str.ofString "=51") 530, Value.str (Str.ofString "=52") 534, Value.str (Str.ofString "=53") 538, Value.str (Str.ofString "=54") 542, Value.str (Str.ofString "=55") 546, Value.str (Str.ofString "=56") 550, Value.str (Str.ofString "=57") 554, Value.str (Str.ofString "=58") 558, Value.str (Str.ofString "=59") 562, Value.str (Str.ofString "=5A") 566, Value.str (Str.ofString "=5B") 570, Value.str (Str.ofString "=5C") 574, Value.str (Str.ofString "=5D") 578, Value.str (Str.ofString "=5E") 582, Value.str (Str.ofString "=5F") 586, Value.str (Str.ofString "=60") 590, Value.str (Str.ofString "=61") 594, Value.str (Str.ofString "=62") 598, Value.str (Str.ofString "=63") 602, Value.str (Str.ofString "=64") 606, Value.str (Str.ofString "=65") 610, Value.str (Str.ofString "=66") 614, Value.str (Str.ofString "=67") 618, Value.str (Str.ofString "=68") 622, Value.str (Str.ofString "=69") 626, Value.str (Str.ofString "=6A") 630, Value.str (Str.ofString "=6B") 634, Value.str (Str.ofString "=6C") 638, Value.str (Str.ofString "=6D") 642, Value.str (Str.ofString "=6E") 646, Value.str (Str.ofString "=6F") 650, Value.str (Str.ofString "=70") 654, Value.str (Str.ofString "=71") 658, Value.str (Str.ofString "=72") 662, Value.str (Str.ofString "=73") 666, Value.str (Str.ofString "=74") 670, Value.str (Str.ofString "=75") 674, Value.str (Str.ofString "=76") 678, Value.str (Str.ofString "=77") 682, Value.str (Str.ofString "=78") 686, Value.str (Str.ofString "=79") 690, Value.str (Str.ofString "=7A") 694, Value.str (Str.ofString "=7B") 698, Value.str (Str.ofString "=7C") 702, Value.str (Str.ofString "=7D") 706, Value.str (Str.ofString "=7E") 710, Value.str (Str.ofString "=7F") 714, Value.str (Str.ofString "=80") 718, Value.str (Str.ofString "=81") 722, Value.str (Str.ofString "=82") 726, Value.str (Str.ofString "=83") 730, Value.str (Str.ofString "=84") 734, Value.str (Str.ofString "=85") 738, Value.str (Str.ofString "=86") 742, Value.str (Str.ofString "=87") 746, Value.str (Str.ofString "=88") 750, Value.str (Str.ofString "=89") 754, Value.str (Str.ofString "=8A") 758, Value.str (Str.ofString "=8B") 762, Value.str (Str.ofString "=8C") 766, Value.str (Str.ofString "=8D") 770, Value.str (Str.ofString "=8E") 774, Value.str (Str.ofString "=8F") 778, Value.str (Str.ofString "=90") 782, Value.str (Str.ofString "=91") 786, Value.str (Str.ofString "=92") 790, Value.str (Str.ofString "=93") 794, Value.str (Str.ofString "=94") 798, Value.str (Str.ofString "=95") 802, Value.str (Str.ofString "=96") 806, Value.str (Str.ofString "=97") 810, Value.str (Str.ofString "=98") 814, Value.str (Str.ofString "=99") 818, Value.str (Str.ofString "=9A") 822, Value.str (Str.ofString "=9B") 826, Value.str (Str.ofString "=9C") 830, Value.str (Str.ofString "=9D") 834, Value.str (Str.ofString "=9E") 838, Value.str (Str.ofString "=9F") 842, Value.str (Str.ofString "=A0") 846, Value.str (Str.ofString "=A1") 850, Value.str (Str.ofString "=A2") 854, Value.str (Str.ofString "=A3") 858, Value.str (Str.ofString "=A4") 862, Value.str (Str.ofString "=A5") 866, Value.str (Str.ofString "=A6") 870, Value.str (Str.ofString "=A7") 874, Value.str (Str.ofString "=A8") 878, Value.str (Str.ofString "=A9") 882, Value.str (Str.ofString "=AA") 886, Value.str (Str.ofString "=AB") 890, Value.str (Str.ofString "=AC") 894, Value.str (Str.ofString "=AD") 898, Value.str (Str.ofString "=AE") 902, Value.str (Str.ofString "=AF") 906, Value.str (Str.ofString "=B0") 910, Value.str (Str.ofString "=B1") 914, Value.str (Str.ofString "=B2") 918, Value.str (Str.ofString "=B3") 922, Value.str (Str.ofString "=B4") 926, Value.str (Str.ofString "=B5") 930, Value.str (Str.ofString "=B6") 934, Value.str (Str.ofString "=B7") 938, Value.str (Str.ofString "=B8") 942, Value.str (Str.ofString "=B9") 946, Value.str (Str.ofString "=BA") 950, Value.str (Str.ofString "=BB") 954, Value.str (Str.ofString "=BC") 958, Value.str (Str.ofString "=BD") 962, Value.str (Str.ofString "=BE") 966, Value.str (Str.ofString "=BF") 970, Value.str (Str.ofString "=C0") 974, Value.str (Str.ofString "=C1") 978, Value.str (Str.ofString "=C2") 982, Value.str (Str.ofString "=C3") 986, Value.str (Str.ofString "=C4") 990, Value.str (Str.ofString "=C5") 994, Value.str (Str.ofString "=C6") 998, Value.str (Str.ofString "=C7") 1002, Value.str (Str.ofString "=C8") 1006, Value.str (Str.ofString "=C9") 1010, Value.str (Str.ofString "=CA") 1014, Value.str (Str.ofString "=CB") 1018, Value.str (Str.ofString "=CC") 1022, Value.str (Str.ofString "=CD") 1026, Value.str (Str.ofString "=CE") 1030, Value.str (Str.ofString "=CF") 1034, Value.str (Str.ofString "=D0") 1038, Value.str (Str.ofString "=D1") 1042, Value.str (Str.ofString "=D2") 1046, Value.str (Str.ofString "=D3") 1050, Value.str (Str.ofString "=D4") 1054, Value.str (Str.ofString "=D5") 1058, Value.str (Str.ofString "=D6") 1062, Value.str (Str.ofString "=D7") 1066, Value.str (Str.ofString "=D8") 1070, Value.str (Str.ofString "=D9") 1074, Value.str (Str.ofString "=DA") 1078, Value.str (Str.ofString "=DB") 1082, Value.str (Str.ofString "=DC") 1086, Value.str (Str.ofString "=DD") 1090, Value.str (Str.ofString "=DE") 1094, Value.str (Str.ofString "=DF") 1098, Value.str (Str.ofString "=E0") 1102, Value.str (Str.ofString "=E1") 1106, Value.str (Str.ofString "=E2") 1110, Value.str (Str.ofString "=E3") 1114, Value.str (Str.ofString "=E4") 1118, Value.str (Str.ofString "=E5") 1122, Value.str (Str.ofString "=E6") 1126, Value.str (Str.ofString "=E7") 1130, Value.str (Str.ofString "=E8") 1134, Value.str (Str.ofString "=E9") 1138, Value.str (Str.ofString "=EA") 1142, Value.str (Str.ofString "=EB") 1146, Value.str (Str.ofString "=EC") 1150, Value.str (Str.ofString "=ED") 1154, Value.str (Str.ofString "=EE") 1158, Value.str (Str.ofString "=EF") 1162, Value.str (Str.ofString "=F0") 1166, Value.str (Str.ofString "=F1") 1170, Value.str (Str.ofString "=F2") 1174, Value.str (Str.ofString "=F3") 1178, Value.str (Str.ofString "=F4") 1182, Value.str (Str.ofString "=F5") 1186, Value.str (Str.ofString "=F6") 1190, Value.str (Str.ofString "=F7") 1194, Value.str (Str.ofString "=F8") 1198, Value.str (Str.ofString "=F9") 1202, Value.str (Str.ofString "=FA") 1206, Value.str (Str.ofString "=FB") 1210, Value.str (Str.ofString "=FC") 1214, Value.str (Str.ofString "=FD") 1218, Value.str (Str.ofString "=FE") 1222, Value.str (Str.ofString "=FF") 1226] 256 }
noncomputable def ob25v0 (_ : Params) : Obj := { cls := Value.type "dict", data := Data.dict #[] 2 }
noncomputable def ob26v0 (_ : Params) : Obj := { cls := Value.type "tuple", data := Data.seq #[] }
noncomputable def ob27v0 (_ : Params) : Obj := { cls := Value.type "StopIteration", data := Data.fields #[Value.ref 26, Value.none, Value.none, Value.none, Value.bool false, Value.none] }
noncomputable def ob3v2 (P : Params) : Obj := { cls := Value.type "dict", data := Data.dict #[{ hash := PyData.keyHash P (Str.ofString "__name__"), key := Value.str (Str.ofString "__name__") 165, val := Value.str (Str.ofString "cpy313.email.quoprimime") 1238 }, { hash := PyData.keyHash P (Str.ofString "__doc__"), key := Value.str (Str.ofString "__doc__") 166, val := Value.none }, { hash := PyData.keyHash P (Str.ofString "__package__"), key := Value.str (Str.ofString "__package__") 167, val := Value.none }, { hash := PyData.keyHash P (Str.ofString "__loader__"), key := Value.str (Str.ofString "__loader__") 168, val := Value.builtin "__main__.__loader__#opaque" }, { hash := PyData.keyHash P (Str.ofString "__spec__"), key := Value.str (Str.ofString "__spec__") 169, val := Value.none }, { hash := PyData.keyHash P (Str.ofString "__annotations__"), key := Value.str (Str.ofString "__annotations__") 170, val := Value.ref 6 }, { hash := PyData.keyHash P (Str.ofString "__builtins__"), key := Value.str (Str.ofString "__builtins__") 171, val := Value.ref 4 }, { hash := PyData.keyHash P (Str.ofString "__file__"), key := Value.str (Str.ofString "__file__") 173, val := Value.str (Str.ofString "/claim/cut.py") 172 }, { hash := PyData.keyHash P (Str.ofString "__cached__"), key := Value.str (Str.ofString "__cached__") 174, val := Value.none }, { hash := PyData.keyHash P (Str.ofString "_NO_LINENO"), key := Value.str (Str.ofString "_NO_LINENO") 190, val := Value.str (Str.ofString "  --") 189 }, { hash := PyData.keyHash P (Str.ofString "_get_lineno_width"), key := Value.str (Str.ofString "_get_lineno_width") 199, val := Value.ref 21 }, { hash := PyData.keyHash P (Str.ofString "_QUOPRI_MAP"), key := Value.str (Str.ofString "_QUOPRI_MAP") 1227, val := Value.ref 24 }, { hash := PyData.keyHash P (Str.ofString "_QUOPRI_HEADER_MAP"), key := Value.str (Str.ofString "_QUOPRI_HEADER_MAP") 1228, val := Value.ref 29 }, { hash := PyData.keyHash P (Str.ofString "_QUOPRI_BODY_MAP"), key := Value.str (Str.ofString "_QUOPRI_BODY_MAP") 1229, val := Value.ref 31 }, { hash := PyData.keyHash P (Str.ofString "ascii_lowercase"), key := Value.str (Str.ofString "ascii_lowercase") 1231, val := Value.str (Str.ofString "abcdefghijklmnopqrstuvwxyz") 1230 }, { hash := PyData.keyHash P (Str.ofString "ascii_uppercase"), key := Value.str (Str.ofString "ascii_uppercase") 1233, val := Value.str (Str.ofString "ABCDEFGHIJKLMNOPQRSTUVWXYZ") 1232 }, { hash := PyData.keyHash P (Str.ofString "ascii_letters"), key := Value.str (Str.ofString "ascii_letters") 1235, val := Value.str (Str.ofString "abcdefghijklmnopqrstuvwxyzABCDEFGHIJKLMNOPQRSTUVWXYZ") 1234 }, { hash := PyData.keyHash P (Str.ofString "digits"), key := Value.str (Str.ofString "digits") 1237, val := Value.str (Str.ofString "0123456789") 1236 }] 18 }
noncomputable def ob28v0 (_ : Params) : Obj := { cls := Value.type "slice", data := Data.fields #[Value.none, Value.none, Value.none] }
noncomputable def ob29v0 (_ : Params) : Obj := { cls := Value.type "list", data := Data.seq #[Value.str (Str.ofString "=00") 206, Value.str (Str.ofString "=01") 210, Value.str (Str.ofString "=02") 214, Value.str (Str.ofString "=03") 218, Value.str (Str.ofString "=04") 222, Value.str (Str.ofString "=05") 226, Value.str (Str.ofString "=06") 230, Value.str (Str.ofString "=07") 234, Value.str (Str.ofString "=08") 238, Value.str (Str.ofString "=09") 242, Value.str (Str.ofString "=0A") 246, Value.str (Str.ofString "=0B") 250, Value.str (Str.ofString "=0C") 254, Value.str (Str.ofString "=0D") 258, Value.str (Str.ofString "=0E") 262, Value.str (Str.ofString "=0F") 266, Value.str (Str.ofString "=10") 270, Value.str (Str.ofString "=11") 274, Value.str (Str.ofString "=12") 278, Value.str (Str.ofString "=13") 282, Value.str (Str.ofString "=14") 286, Value.str (Str.ofString "=15") 290, Value.str (Str.ofString "=16") 294, Value.str (Str.ofString "=17") 298, Value.str (Str.ofString "=18") 302, Value.str (Str.ofString "=19") 306, Value.str (Str.ofString "=1A") 310, Value.str (Str.ofString "=1B") 314, Value.str (Str.ofString "=1C") 318, Value.str (Str.ofString "=1D") 322, Value.str (Str.ofString "=1E") 326, Value.str (Str.ofString "=1F") 330, Value.str (Str.ofString "=20") 334, Value.str (Str.ofString "=21") 338, Value.str (Str.ofString "=22") 342, Value.str (Str.ofString "=23") 346, Value.str (Str.ofString "=24") 350, Value.str (Str.ofString "=25") 354, Value.str (Str.ofString "=26") 358, Value.str (Str.ofString "=27") 362, Value.str (Str.ofString "=28") 366, Value.str (Str.ofString "=29") 370, Value.str (Str.ofString "=2A") 374, Value.str (Str.ofString "=2B") 378, Value.str (Str.ofString "=2C") 382, Value.str (Str.ofString "=2D") 386, Value.str (Str.ofString "=2E") 390, Value.str (Str.ofString "=2F") 394, Value.str (Str.ofString "=30") 398, Value.str (Str.ofString "=31") 402, Value.str (Str.ofString "=32") 406, Value.str (Str.ofString "=33") 410, Value.str (Str.ofString "=34") 414, Value.str (Str.ofString "=35") 418, Value.str (Str.ofString "=36") 422, Value.str (Str.ofString "=37") 426, Value.str (Str.ofString "=38") 430, Value.str (Str.ofString "=39") 434, Value.str (Str.ofString "=3A") 438, Value.str (Str.ofString "=3B") 442, Value.str (Str.ofString "=3C") 446, Value.str (Str.ofString "=3D") 450, Value.str (Str.ofString "=3E") 454, Value.str (Str.ofString "=3F") 458, Value.str (Str.ofString "=40") 462, Value.str (Str.ofString "=41") 466, Value.str (Str.ofString "=42") 470, Value.str (Str.ofString "=43") 474, Value.str (Str.ofString "=44") 478, Value.str (Str.ofString "=45") 482, Value.str (Str.ofString "=46") 486, Value.str (Str.ofString "=47") 490, Value.str (Str.ofString "=48") 494, Value.str (Str.ofString "=49") 498, Value.str (Str.ofString "=4A") 502, Value.str (Str.ofString "=4B") 506, Value.str (Str.ofString "=4C") 510, Value.str (Str.ofString "=4D") 514, Value.str (Str.ofString "=4E") 518, Value.str (Str.ofString "=4F") 522, Value.str (Str.ofString "=50") 526, Value.str (Str.ofString "=51") 530, Value.str (Str.ofString "=52") 534, Value.str (Str.ofString "=53") 538, Value.str (Str.ofString "=54") 542, Value.str (Str.ofString "=55") 546, Value.str (Str.ofString "=56") 550, Value.str (Str.ofString "=57") 554, Value.str (Str.ofString "=58") 558, Value.str (Str.ofString "=59") 562, Value.str (Str.ofString "=5A") 566, Value.str (Str.ofString "=5B") 570, Value.str (Str.ofString "=5C") 574, Value.str (Str.ofString "=5D") 578, Value.str (Str.ofString "=5E") 582, Value.str (Str.ofString "=5F") 586, Value.str (Str.ofString "=60") 590, Value.str (Str.ofString "=61") 594, Value.str (Str.ofString "=62") 598, Value.str (Str.ofString "=63") 602, Value.str (Str.ofString "=64") 606, Value.str (Str.ofString "=65") 610, Value.str (Str.ofString "=66") 614, Value.str (Str.ofString "=67") 618, Value.str (Str.ofString "=68") 622, Value.str (Str.ofString "=69") 626, Value.str (Str.ofString "=6A") 630, Value.str (Str.ofString "=6B") 634, Value.str (Str.ofString "=6C") 638, Value.str (Str.ofString "=6D") 642, Value.str (Str.ofString "=6E") 646, Value.str (Str.ofString "=6F") 650, Value.str (Str.ofString "=70") 654, Value.str (Str.ofString "=71") 658, Value.str (Str.ofString "=72") 662, Value.str (Str.ofString "=73") 666, Value.str (Str.ofString "=74") 670, Value.str (Str.ofString "=75") 674, Value.str (Str.ofString "=76") 678, Value.str (Str.ofString "=77") 682, Value.str (Str.ofString "=78") 686, Value.str (Str.ofString "=79") 690, Value.str (Str.ofString "=7A") 694, Value.str (Str.ofString "=7B") 698, Value.str (Str.ofString "=7C") 702, Value.str (Str.ofString "=7D") 706, Value.str (Str.ofString "=7E") 710, Value.str (Str.ofString "=7F") 714, Value.str (Str.ofString "=80") 718, Value.str (Str.ofString "=81") 722, Value.str (Str.ofString "=82") 726, Value.str (Str.ofString "=83") 730, Value.str (Str.ofString "=84") 734, Value.str (Str.ofString "=85") 738, Value.str (Str.ofString "=86") 742, Value.str (Str.ofString "=87") 746, Value.str (Str.ofString "=88") 750, Value.str (Str.ofString "=89") 754, Value.str (Str.ofString "=8A") 758, Value.str (Str.ofString "=8B") 762, Value.str (Str.ofString "=8C") 766, Value.str (Str.ofString "=8D") 770, Value.str (Str.ofString "=8E") 774, Value.str (Str.ofString "=8F") 778, Value.str (Str.ofString "=90") 782, Value.str (Str.ofString "=91") 786, Value.str (Str.ofString "=92") 790, Value.str (Str.ofString "=93") 794, Value.str (Str.ofString "=94") 798, Value.str (Str.ofString "=95") 802, Value.str (Str.ofString "=96") 806, Value.str (Str.ofString "=97") 810, Value.str (Str.ofString "=98") 814, Value.str (Str.ofString "=99") 818, Value.str (Str.ofString "=9A") 822, Value.str (Str.ofString "=9B") 826, Value.str (Str.ofString "=9C") 830, Value.str (Str.ofString "=9D") 834, Value.str (Str.ofString "=9E") 838, Value.str (Str.ofString "=9F") 842, Value.str (Str.ofString "=A0") 846, Value.str (Str.ofString "=A1") 850, Value.str (Str.ofString "=A2") 854, Value.str (Str.ofString "=A3") 858, Value.str (Str.ofString "=A4") 862, Value.str (Str.ofString "=A5") 866, Value.str (Str.ofString "=A6") 870, Value.str (Str.ofString "=A7") 874, Value.str (Str.ofString "=A8") 878, Value.str (Str.ofString "=A9") 882, Value.str (Str.ofString "=AA") 886, Value.str (Str.ofString "=AB") 890, Value.str (Str.ofString "=AC") 894, Value.str (Str.ofString "=AD") 898, Value.str (Str.ofString "=AE") 902, Value.str (Str.ofString "=AF") 906, Value.str (Str.ofString "=B0") 910, Value.str (Str.ofString "=B1") 914, Value.str (Str.ofString "=B2") 918, Value.str (Str.ofString "=B3") 922, Value.str (Str.ofString "=B4") 926, Value.str (Str.ofString "=B5") 930, Value.str (Str.ofString "=B6") 934, Value.str (Str.ofString "=B7") 938, Value.str (Str.ofString "=B8") 942, Value.str (Str.ofString "=B9") 946, Value.str (Str.ofString "=BA") 950, Value.str (Str.ofString "=BB") 954, Value.str (Str.ofString "=BC") 958, Value.str (Str.ofString "=BD") 962, Value.str (Str.ofString "=BE") 966, Value.str (Str.ofString "=BF") 970, Value.str (Str.ofString "=C0") 974, Value.str (Str.ofString "=C1") 978, Value.str (Str.ofString "=C2") 982, Value.str (Str.ofString "=C3") 986, Value.str (Str.ofString "=C4") 990, Value.str (Str.ofString "=C5") 994, Value.str (Str.ofString "=C6") 998, Value.str (Str.ofString "=C7") 1002, Value.str (Str.ofString "=C8") 1006, Value.str (Str.ofString "=C9") 1010, Value.str (Str.ofString "=CA") 1014, Value.str (Str.ofString "=CB") 1018, Value.str (Str.ofString "=CC") 1022, Value.str (Str.ofString "=CD") 1026, Value.str (Str.ofString "=CE") 1030, Value.str (Str.ofString "=CF") 1034, Value.str (Str.ofString "=D0") 1038, Value.str (Str.ofString "=D1") 1042, Value.str (Str.ofString "=D2") 1046, Value.str (Str.ofString "=D3") 1050, Value.str (Str.ofString "=D4") 1054, Value.str (Str.ofString "=D5") 1058, Value.str (Str.ofString "=D6") 1062, Value.str (Str.ofString "=D7") 1066, Value.str (Str.ofString "=D8") 1070, Value.str (Str.ofString "=D9") 1074, Value.str (Str.ofString "=DA") 1078, Value.str (Str.ofString "=DB") 1082, Value.str (Str.ofString "=DC") 1086, Value.str (Str.ofString "=DD") 1090, Value.str (Str.ofString "=DE") 1094, Value.str (Str.ofString "=DF") 1098, Value.str (Str.ofString "=E0") 1102, Value.str (Str.ofString "=E1") 1106, Value.str (Str.ofString "=E2") 1110, Value.str (Str.ofString "=E3") 1114, Value.str (Str.ofString "=E4") 1118, Value.str (Str.ofString "=E5") 1122, Value.str (Str.ofString "=E6") 1126, Value.str (Str.ofString "=E7") 1130, Value.str (Str.ofString "=E8") 1134, Value.str (Str.ofString "=E9") 1138, Value.str (Str.ofString "=EA") 1142, Value.str (Str.ofString "=EB") 1146, Value.str (Str.ofString "=EC") 1150, Value.str (Str.ofString "=ED") 1154, Value.str (Str.ofString "=EE") 1158, Value.str (Str.ofString "=EF") 1162, Value.str (Str.ofString "=F0") 1166, Value.str (Str.ofString "=F1") 1170, Value.str (Str.ofString "=F2") 1174, Value.str (Str.ofString "=F3") 1178, Value.str (Str.ofString "=F4") 1182, Value.str (Str.ofString "=F5") 1186, Value.str (Str.ofString "=F6") 1190, Value.str (Str.ofString "=F7") 1194, Value.str (Str.ofString "=F8") 1198, Value.str (Str.ofString "=F9") 1202, Value.str (Str.ofString "=FA") 1206, Value.str (Str.ofString "=FB") 1210, Value.str (Str.ofString "=FC") 1214, Value.str (Str.ofString "=FD") 1218, Value.str (Str.ofString "=FE") 1222, Value.str (Str.ofString "=FF") 1226] }
noncomputable def ob30v0 (_ : Params) : Obj := { cls := Value.type "slice", data := Data.fields #[Value.none, Value.none, Value.none] }
noncomputable def ob31v0 (_ : Params) : Obj := { cls := Value.type "list", data := Data.seq #[Value.str (Str.ofString "=00") 206, Value.str (Str.ofString "=01") 210, Value.str (Str.ofString "=02") 214, Value.str (Str.ofString "=03") 218, Value.str (Str.ofString "=04") 222, Value.str (Str.ofString "=05") 226, Value.str (Str.ofString "=06") 230, Value.str (Str.ofString "=07") 234, Value.str (Str.ofString "=08") 238, Value.str (Str.ofString "=09") 242, Value.str (Str.ofString "=0A") 246, Value.str (Str.ofString "=0B") 250, Value.str (Str.ofString "=0C") 254, Value.str (Str.ofString "=0D") 258, Value.str (Str.ofString "=0E") 262, Value.str (Str.ofString "=0F") 266, Value.str (Str.ofString "=10") 270, Value.str (Str.ofString "=11") 274, Value.str (Str.ofString "=12") 278, Value.str (Str.ofString "=13") 282, Value.str (Str.ofString "=14") 286, Value.str (Str.ofString "=15") 290, Value.str (Str.ofString "=16") 294, Value.str (Str.ofString "=17") 298, Value.str (Str.ofString "=18") 302, Value.str (Str.ofString "=19") 306, Value.str (Str.ofString "=1A") 310, Value.str (Str.ofString "=1B") 314, Value.str (Str.ofString "=1C") 318, Value.str (Str.ofString "=1D") 322, Value.str (Str.ofString "=1E") 326, Value.str (Str.ofString "=1F") 330, Value.str (Str.ofString "=20") 334, Value.str (Str.ofString "=21") 338, Value.str (Str.ofString "=22") 342, Value.str (Str.ofString "=23") 346, Value.str (Str.ofString "=24") 350, Value.str (Str.ofString "=25") 354, Value.str (Str.ofString "=26") 358, Value.str (Str.ofString "=27") 362, Value.str (Str.ofString "=28") 366, Value.str (Str.ofString "=29") 370, Value.str (Str.ofString "=2A") 374, Value.str (Str.ofString "=2B") 378, Value.str (Str.ofString "=2C") 382, Value.str (Str.ofString "=2D") 386, Value.str (Str.ofString "=2E") 390, Value.str (Str.ofString "=2F") 394, Value.str (Str.ofString "=30") 398, Value.str (Str.ofString "=31") 402, Value.str (Str.ofString "=32") 406, Value.str (Str.ofString "=33") 410, Value.str (Str.ofString "=34") 414, Value.str (Str.ofString "=35") 418, Value.str (Str.ofString "=36") 422, Value.str (Str.ofString "=37") 426, Value.str (Str.ofString "=38") 430, Value.str (Str.ofString "=39") 434, Value.str (Str.ofString "=3A") 438, Value.str (Str.ofString "=3B") 442, Value.str (Str.ofString "=3C") 446, Value.str (Str.ofString "=3D") 450, Value.str (Str.ofString "=3E") 454, Value.str (Str.ofString "=3F") 458, Value.str (Str.ofString "=40") 462, Value.str (Str.ofString "=41") 466, Value.str (Str.ofString "=42") 470, Value.str (Str.ofString "=43") 474, Value.str (Str.ofString "=44") 478, Value.str (Str.ofString "=45") 482, Value.str (Str.ofString "=46") 486, Value.str (Str.ofString "=47") 490, Value.str (Str.ofString "=48") 494, Value.str (Str.ofString "=49") 498, Value.str (Str.ofString "=4A") 502, Value.str (Str.ofString "=4B") 506, Value.str (Str.ofString "=4C") 510, Value.str (Str.ofString "=4D") 514, Value.str (Str.ofString "=4E") 518, Value.str (Str.ofString "=4F") 522, Value.str (Str.ofString "=50") 526, Value.str (Str.ofString "=51") 530, Value.str (Str.ofString "=52") 534, Value.str (Str.ofString "=53") 538, Value.str (Str.ofString "=54") 542, Value.str (Str.ofString "=55") 546, Value.str (Str.ofString "=56") 550, Value.str (Str.ofString "=57") 554, Value.str (Str.ofString "=58") 558, Value.str (Str.ofString "=59") 562, Value.str (Str.ofString "=5A") 566, Value.str (Str.ofString "=5B") 570, Value.str (Str.ofString "=5C") 574, Value.str (Str.ofString "=5D") 578, Value.str (Str.ofString "=5E") 582, Value.str (Str.ofString "=5F") 586, Value.str (Str.ofString "=60") 590, Value.str (Str.ofString "=61") 594, Value.str (Str.ofString "=62") 598, Value.str (Str.ofString "=63") 602, Value.str (Str.ofString "=64") 606, Value.str (Str.ofString "=65") 610, Value.str (Str.ofString "=66") 614, Value.str (Str.ofString "=67") 618, Value.str (Str.ofString "=68") 622, Value.str (Str.ofString "=69") 626, Value.str (Str.ofString "=6A") 630, Value.str (Str.ofString "=6B") 634, Value.str (Str.ofString "=6C") 638, Value.str (Str.ofString "=6D") 642, Value.str (Str.ofString "=6E") 646, Value.str (Str.ofString "=6F") 650, Value.str (Str.ofString "=70") 654, Value.str (Str.ofString "=71") 658, Value.str (Str.ofString "=72") 662, Value.str (Str.ofString "=73") 666, Value.str (Str.ofString "=74") 670, Value.str (Str.ofString "=75") 674, Value.str (Str.ofString "=76") 678, Value.str (Str.ofString "=77") 682, Value.str (Str.ofString "=78") 686, Value.str (Str.ofString "=79") 690, Value.str (Str.ofString "=7A") 694, Value.str (Str.ofString "=7B") 698, Value.str (Str.ofString "=7C") 702, Value.str (Str.ofString "=7D") 706, Value.str (Str.ofString "=7E") 710, Value.str (Str.ofString "=7F") 714, Value.str (Str.ofString "=80") 718, Value.str (Str.ofString "=81") 722, Value.str (Str.ofString "=82") 726, Value.str (Str.ofString "=83") 730, Value.str (Str.ofString "=84") 734, Value.str (Str.ofString "=85") 738, Value.str (Str.ofString "=86") 742, Value.str (Str.ofString "=87") 746, Value.str (Str.ofString "=88") 750, Value.str (Str.ofString "=89") 754, Value.str (Str.ofString "=8A") 758, Value.str (Str.ofString "=8B") 762, Value.str (Str.ofString "=8C") 766, Value.str (Str.ofString "=8D") 770, Value.str (Str.ofString "=8E") 774, Value.str (Str.ofString "=8F") 778, Value.str (Str.ofString "=90") 782, Value.str (Str.ofString "=91") 786, Value.str (Str.ofString "=92") 790, Value.str (Str.ofString "=93") 794, Value.str (Str.ofString "=94") 798, Value.str (Str.ofString "=95") 802, Value.str (Str.ofString "=96") 806, Value.str (Str.ofString "=97") 810, Value.str (Str.ofString "=98") 814, Value.str (Str.ofString "=99") 818, Value.str (Str.ofString "=9A") 822, Value.str (Str.ofString "=9B") 826, Value.str (Str.ofString "=9C") 830, Value.str (Str.ofString "=9D") 834, Value.str (Str.ofString "=9E") 838, Value.str (Str.ofString "=9F") 842, Value.str (Str.ofString "=A0") 846, Value.str (Str.ofString "=A1") 850, Value.str (Str.ofString "=A2") 854, Value.str (Str.ofString "=A3") 858, Value.str (Str.ofString "=A4") 862, Value.str (Str.ofString "=A5") 866, Value.str (Str.ofString "=A6") 870, Value.str (Str.ofString "=A7") 874, Value.str (Str.ofString "=A8") 878, Value.str (Str.ofString "=A9") 882, Value.str (Str.ofString "=AA") 886, Value.str (Str.ofString "=AB") 890, Value.str (Str.ofString "=AC") 894, Value.str (Str.ofString "=AD") 898, Value.str (Str.ofString "=AE") 902, Value.str (Str.ofString "=AF") 906, Value.str (Str.ofString "=B0") 910, Value.str (Str.ofString "=B1") 914, Value.str (Str.ofString "=B2") 918, Value.str (Str.ofString "=B3") 922, Value.str (Str.ofString "=B4") 926, Value.str (Str.ofString "=B5") 930, Value.str (Str.ofString "=B6") 934, Value.str (Str.ofString "=B7") 938, Value.str (Str.ofString "=B8") 942, Value.str (Str.ofString "=B9") 946, Value.str (Str.ofString "=BA") 950, Value.str (Str.ofString "=BB") 954, Value.str (Str.ofString "=BC") 958, Value.str (Str.ofString "=BD") 962, Value.str (Str.ofString "=BE") 966, Value.str (Str.ofString "=BF") 970, Value.str (Str.ofString "=C0") 974, Value.str (Str.ofString "=C1") 978, Value.str (Str.ofString "=C2") 982, Value.str (Str.ofString "=C3") 986, Value.str (Str.ofString "=C4") 990, Value.str (Str.ofString "=C5") 994, Value.str (Str.ofString "=C6") 998, Value.str (Str.ofString "=C7") 1002, Value.str (Str.ofString "=C8") 1006, Value.str (Str.ofString "=C9") 1010, Value.str (Str.ofString "=CA") 1014, Value.str (Str.ofString "=CB") 1018, Value.str (Str.ofString "=CC") 1022, Value.str (Str.ofString "=CD") 1026, Value.str (Str.ofString "=CE") 1030, Value.str (Str.ofString "=CF") 1034, Value.str (Str.ofString "=D0") 1038, Value.str (Str.ofString "=D1") 1042, Value.str (Str.ofString "=D2") 1046, Value.str (Str.ofString "=D3") 1050, Value.str (Str.ofString "=D4") 1054, Value.str (Str.ofString "=D5") 1058, Value.str (Str.ofString "=D6") 1062, Value.str (Str.ofString "=D7") 1066, Value.str (Str.ofString "=D8") 1070, Value.str (Str.ofString "=D9") 1074, Value.str (Str.ofString "=DA") 1078, Value.str (Str.ofString "=DB") 1082, Value.str (Str.ofString "=DC") 1086, Value.str (Str.ofString "=DD") 1090, Value.str (Str.ofString "=DE") 1094, Value.str (Str.ofString "=DF") 1098, Value.str (Str.ofString "=E0") 1102, Value.str (Str.ofString "=E1") 1106, Value.str (Str.ofString "=E2") 1110, Value.str (Str.ofString "=E3") 1114, Value.str (Str.ofString "=E4") 1118, Value.str (Str.ofString "=E5") 1122, Value.str (Str.ofString "=E6") 1126, Value.str (Str.ofString "=E7") 1130, Value.str (Str.ofString "=E8") 1134, Value.str (Str.ofString "=E9") 1138, Value.str (Str.ofString "=EA") 1142, Value.str (Str.ofString "=EB") 1146, Value.str (Str.ofString "=EC") 1150, Value.str (Str.ofString "=ED") 1154, Value.str (Str.ofString "=EE") 1158, Value.str (Str.ofString "=EF") 1162, Value.str (Str.ofString "=F0") 1166, Value.str (Str.ofString "=F1") 1170, Value.str (Str.ofString "=F2") 1174, Value.str (Str.ofString "=F3") 1178, Value.str (Str.ofString "=F4") 1182, Value.str (Str.ofString "=F5") 1186, Value.str (Str.ofString "=F6") 1190, Value.str (Str.ofString "=F7") 1194, Value.str (Str.ofString "=F8") 1198, Value.str (Str.ofString "=F9") 1202, Value.str (Str.ofString "=FA") 1206, Value.str (Str.ofString "=FB") 1210, Value.str (Str.ofString "=FC") 1214, Value.str (Str.ofString "=FD") 1218, Value.str (Str.ofString "=FE") 1222, Value.str (Str.ofString "=FF") 1226] }
noncomputable def ob3v3 (P : Params) : Obj := { cls := Value.type "dict", data := Data.dict #[{ hash := PyData.keyHash P (Str.ofString "__name__"), key := Value.str (Str.ofString "__name__") 165, val := Value.str (Str.ofString "cpy313.email.quoprimime") 1238 }, { hash := PyData.keyHash P (Str.ofString "__doc__"), key := Value.str (Str.ofString "__doc__") 166, val := Value.none }, { hash := PyData.keyHash P (Str.ofString "__package__"), key := Value.str (Str.ofString "__package__") 167, val := Value.none }, { hash := PyData.keyHash P (Str.ofString "__loader__"), key := Value.str (Str.ofString "__loader__") 168, val := Value.builtin "__main__.__loader__#opaque" }, { hash := PyData.keyHash P (Str.ofString "__spec__"), key := Value.str (Str.ofString "__spec__") 169, val := Value.none }, { hash := PyData.keyHash P (Str.ofString "__annotations__"), key := Value.str (Str.ofString "__annotations__") 170, val := Value.ref 6 }, { hash := PyData.keyHash P (Str.ofString "__builtins__"), key := Value.str (Str.ofString "__builtins__") 171, val := Value.ref 4 }, { hash := PyData.keyHash P (Str.ofString "__file__"), key := Value.str (Str.ofString "__file__") 173, val := Value.str (Str.ofString "/claim/cut.py") 172 }, { hash := PyData.keyHash P (Str.ofString "__cached__"), key := Value.str (Str.ofString "__cached__") 174, val := Value.none }, { hash := PyData.keyHash P (Str.ofString "_NO_LINENO"), key := Value.str (Str.ofString "_NO_LINENO") 190, val := Value.str (Str.ofString "  --") 189 }, { hash := PyData.keyHash P (Str.ofString "_get_lineno_width"), key := Value.str (Str.ofString "_get_lineno_width") 199, val := Value.ref 21 }, { hash := PyData.keyHash P (Str.ofString "_QUOPRI_MAP"), key := Value.str (Str.ofString "_QUOPRI_MAP") 1227, val := Value.ref 24 }, { hash := PyData.keyHash P (Str.ofString "_QUOPRI_HEADER_MAP"), key := Value.str (Str.ofString "_QUOPRI_HEADER_MAP") 1228, val := Value.ref 29 }, { hash := PyData.keyHash P (Str.ofString "_QUOPRI_BODY_MAP"), key := Value.str (Str.ofString "_QUOPRI_BODY_MAP") 1229, val := Value.ref 31 }, { hash := PyData.keyHash P (Str.ofString "ascii_lowercase"), key := Value.str (Str.ofString "ascii_lowercase") 1231, val := Value.str (Str.ofString "abcdefghijklmnopqrstuvwxyz") 1230 }, { hash := PyData.keyHash P (Str.ofString "ascii_uppercase"), key := Value.str (Str.ofString "ascii_uppercase") 1233, val := Value.str (Str.ofString "ABCDEFGHIJKLMNOPQRSTUVWXYZ") 1232 }, { hash := PyData.keyHash P (Str.ofString "ascii_letters"), key := Value.str (Str.ofString "ascii_letters") 1235, val := Value.str (Str.ofString "abcdefghijklmnopqrstuvwxyzABCDEFGHIJKLMNOPQRSTUVWXYZ") 1234 }, { hash := PyData.keyHash P (Str.ofString "digits"), key := Value.str (Str.ofString "digits") 1237, val := Value.str (Str.ofString "0123456789") 1236 }, { hash := PyData.keyHash P (Str.ofString "c"), key := Value.str (Str.ofString "c") 1248, val := Value.int 57 1445 }] 19 }
noncomputable def ob29v1 (P : Params) : Obj := { cls := Value.type "list", data := Data.seq #[Value.str (Str.ofString "=00") 206, Value.str (Str.ofString "=01") 210, Value.str (Str.ofString "=02") 214, Value.str (Str.ofString "=03") 218, Value.str (Str.ofString "=04") 222, Value.str (Str.ofString "=05") 226, Value.str (Str.ofString "=06") 230, Value.str (Str.ofString "=07") 234, Value.str (Str.ofString "=08") 238, Value.str (Str.ofString "=09") 242, Value.str (Str.ofString "=0A") 246, Value.str (Str.ofString "=0B") 250, Value.str (Str.ofString "=0C") 254, Value.str (Str.ofString "=0D") 258, Value.str (Str.ofString "=0E") 262, Value.str (Str.ofString "=0F") 266, Value.str (Str.ofString "=10") 270, Value.str (Str.ofString "=11") 274, Value.str (Str.ofString "=12") 278, Value.str (Str.ofString "=13") 282, Value.str (Str.ofString "=14") 286, Value.str (Str.ofString "=15") 290, Value.str (Str.ofString "=16") 294, Value.str (Str.ofString "=17") 298, Value.str (Str.ofString "=18") 302, Value.str (Str.ofString "=19") 306, Value.str (Str.ofString "=1A") 310, Value.str (Str.ofString "=1B") 314, Value.str (Str.ofString "=1C") 318, Value.str (Str.ofString "=1D") 322, Value.str (Str.ofString "=1E") 326, Value.str (Str.ofString "=1F") 330, Value.str (Str.ofString "=20") 334, Value.str (Str.ofString "!") 1252, Value.str (Str.ofString "=22") 342, Value.str (Str.ofString "=23") 346, Value.str (Str.ofString "=24") 350, Value.str (Str.ofString "=25") 354, Value.str (Str.ofString "=26") 358, Value.str (Str.ofString "=27") 362, Value.str (Str.ofString "=28") 366, Value.str (Str.ofString "=29") 370, Value.str (Str.ofString "*") 1255, Value.str (Str.ofString "+") 1258, Value.str (Str.ofString "=2C") 382, Value.str (Str.ofString "-") 1249, Value.str (Str.ofString "=2E") 390, Value.str (Str.ofString "/") 1261, Value.str (Str.ofString "0") 1420, Value.str (Str.ofString "1") 1423, Value.str (Str.ofString "2") 1426, Value.str (Str.ofString "3") 1429, Value.str (Str.ofString "4") 1432, Value.str (Str.ofString "5") 1435, Value.str (Str.ofString "6") 1438, Value.str (Str.ofString "7") 1441, Value.str (Str.ofString "8") 1444, Value.str (Str.ofString "9") 1447, Value.str (Str.ofString "=3A") 438, Value.str (Str.ofString "=3B") 442, Value.str (Str.ofString "=3C") 446, Value.str (Str.ofString "=3D") 450, Value.str (Str.ofString "=3E") 454, Value.str (Str.ofString "=3F") 458, Value.str (Str.ofString "=40") 462, Value.str (Str.ofString "A") 1342, Value.str (Str.ofString "B") 1345, Value.str (Str.ofString "C") 1348, Value.str (Str.ofString "D") 1351, Value.str (Str.ofString "E") 1354, Value.str (Str.ofString "F") 1357, Value.str (Str.ofString "G") 1360, Value.str (Str.ofString "H") 1363, Value.str (Str.ofString "I") 1366, Value.str (Str.ofString "J") 1369, Value.str (Str.ofString "K") 1372, Value.str (Str.ofString "L") 1375, Value.str (Str.ofString "M") 1378, Value.str (Str.ofString "N") 1381, Value.str (Str.ofString "O") 1384, Value.str (Str.ofString "P") 1387, Value.str (Str.ofString "Q") 1390, Value.str (Str.ofString "R") 1393, Value.str (Str.ofString "S") 1396, Value.str (Str.ofString "T") 1399, Value.str (Str.ofString "U") 1402, Value.str (Str.ofString "V") 1405, Value.str (Str.ofString "W") 1408, Value.str (Str.ofString "X") 1411, Value.str (Str.ofString "Y") 1414, Value.str (Str.ofString "Z") 1417, Value.str (Str.ofString "=5B") 570, Value.str (Str.ofString "=5C") 574, Value.str (Str.ofString "=5D") 578, Value.str (Str.ofString "=5E") 582, Value.str (Str.ofString "=5F") 586, Value.str (Str.ofString "=60") 590, Value.str (Str.ofString "a") 1264, Value.str (Str.ofString "b") 1267, Value.str (Str.ofString "c") 1270, Value.str (Str.ofString "d") 1273, Value.str (Str.ofString "e") 1276, Value.str (Str.ofString "f") 1279, Value.str (Str.ofString "g") 1282, Value.str (Str.ofString "h") 1285, Value.str (Str.ofString "i") 1288, Value.str (Str.ofString "j") 1291, Value.str (Str.ofString "k") 1294, Value.str (Str.ofString "l") 1297, Value.str (Str.ofString "m") 1300, Value.str (Str.ofString "n") 1303, Value.str (Str.ofString "o") 1306, Value.str (Str.ofString "p") 1309, Value.str (Str.ofString "q") 1312, Value.str (Str.ofString "r") 1315, Value.str (Str.ofString "s") 1318, Value.str (Str.ofString "t") 1321, Value.str (Str.ofString "u") 1324, Value.str (Str.ofString "v") 1327, Value.str (Str.ofString "w") 1330, Value.str (Str.ofString "x") 1333, Value.str (Str.ofString "y") 1336, Value.str (Str.ofString "z") 1339, Value.str (Str.ofString "=7B") 698, Value.str (Str.ofString "=7C") 702, Value.str (Str.ofString "=7D") 706, Value.str (Str.ofString "=7E") 710, Value.str (Str.ofString "=7F") 714, Value.str (Str.ofString "=80") 718, Value.str (Str.ofString "=81") 722, Value.str (Str.ofString "=82") 726, Value.str (Str.ofString "=83") 730, Value.str (Str.ofString "=84") 734, Value.str (Str.ofString "=85") 738, Value.str (Str.ofString "=86") 742, Value.str (Str.ofString "=87") 746, Value.str (Str.ofString "=88") 750, Value.str (Str.ofString "=89") 754, Value.str (Str.ofString "=8A") 758, Value.str (Str.ofString "=8B") 762, Value.str (Str.ofString "=8C") 766, Value.str (Str.ofString "=8D") 770, Value.str (Str.ofString "=8E") 774, Value.str (Str.ofString "=8F") 778, Value.str (Str.ofString "=90") 782, Value.str (Str.ofString "=91") 786, Value.str (Str.ofString "=92") 790, Value.str (Str.ofString "=93") 794, Value.str (Str.ofString "=94") 798, Value.str (Str.ofString "=95") 802, Value.str (Str.ofString "=96") 806, Value.str (Str.ofString "=97") 810, Value.str (Str.ofString "=98") 814, Value.str (Str.ofString "=99") 818, Value.str (Str.ofString "=9A") 822, Value.str (Str.ofString "=9B") 826, Value.str (Str.ofString "=9C") 830, Value.str (Str.ofString "=9D") 834, Value.str (Str.ofString "=9E") 838, Value.str (Str.ofString "=9F") 842, Value.str (Str.ofString "=A0") 846, Value.str (Str.ofString "=A1") 850, Value.str (Str.ofString "=A2") 854, Value.str (Str.ofString "=A3") 858, Value.str (Str.ofString "=A4") 862, Value.str (Str.ofString "=A5") 866, Value.str (Str.ofString "=A6") 870, Value.str (Str.ofString "=A7") 874, Value.str (Str.ofString "=A8") 878, Value.str (Str.ofString "=A9") 882, Value.str (Str.ofString "=AA") 886, Value.str (Str.ofString "=AB") 890, Value.str (Str.ofString "=AC") 894, Value.str (Str.ofString "=AD") 898, Value.str (Str.ofString "=AE") 902, Value.str (Str.ofString "=AF") 906, Value.str (Str.ofString "=B0") 910, Value.str (Str.ofString "=B1") 914, Value.str (Str.ofString "=B2") 918, Value.str (Str.ofString "=B3") 922, Value.str (Str.ofString "=B4") 926, Value.str (Str.ofString "=B5") 930, Value.str (Str.ofString "=B6") 934, Value.str (Str.ofString "=B7") 938, Value.str (Str.ofString "=B8") 942, Value.str (Str.ofString "=B9") 946, Value.str (Str.ofString "=BA") 950, Value.str (Str.ofString "=BB") 954, Value.str (Str.ofString "=BC") 958, Value.str (Str.ofString "=BD") 962, Value.str (Str.ofString "=BE") 966, Value.str (Str.ofString "=BF") 970, Value.str (Str.ofString "=C0") 974, Value.str (Str.ofString "=C1") 978, Value.str (Str.ofString "=C2") 982, Value.str (Str.ofString "=C3") 986, Value.str (Str.ofString "=C4") 990, Value.str (Str.ofString "=C5") 994, Value.str (Str.ofString "=C6") 998, Value.str (Str.ofString "=C7") 1002, Value.str (Str.ofString "=C8") 1006, Value.str (Str.ofString "=C9") 1010, Value.str (Str.ofString "=CA") 1014, Value.str (Str.ofString "=CB") 1018, Value.str (Str.ofString "=CC") 1022, Value.str (Str.ofString "=CD") 1026, Value.str (Str.ofString "=CE") 1030, Value.str (Str.ofString "=CF") 1034, Value.str (Str.ofString "=D0") 1038, Value.str (Str.ofString "=D1") 1042, Value.str (Str.ofString "=D2") 1046, Value.str (Str.ofString "=D3") 1050, Value.str (Str.ofString "=D4") 1054, Value.str (Str.ofString "=D5") 1058, Value.str (Str.ofString "=D6") 1062, Value.str (Str.ofString "=D7") 1066, Value.str (Str.ofString "=D8") 1070, Value.str (Str.ofString "=D9") 1074, Value.str (Str.ofString "=DA") 1078, Value.str (Str.ofString "=DB") 1082, Value.str (Str.ofString "=DC") 1086, Value.str (Str.ofString "=DD") 1090, Value.str (Str.ofString "=DE") 1094, Value.str (Str.ofString "=DF") 1098, Value.str (Str.ofString "=E0") 1102, Value.str (Str.ofString "=E1") 1106, Value.str (Str.ofString "=E2") 1110, Value.str (Str.ofString "=E3") 1114, Value.str (Str.ofString "=E4") 1118, Value.str (Str.ofString "=E5") 1122, Value.str (Str.ofString "=E6") 1126, Value.str (Str.ofString "=E7") 1130, Value.str (Str.ofString "=E8") 1134, Value.str (Str.ofString "=E9") 1138, Value.str (Str.ofString "=EA") 1142, Value.str (Str.ofString "=EB") 1146, Value.str (Str.ofString "=EC") 1150, Value.str (Str.ofString "=ED") 1154, Value.str (Str.ofString "=EE") 1158, Value.str (Str.ofString "=EF") 1162, Value.str (Str.ofString "=F0") 1166, Value.str (Str.ofString "=F1") 1170, Value.str (Str.ofString "=F2") 1174, Value.str (Str.ofString "=F3") 1178, Value.str (Str.ofString "=F4") 1182, Value.str (Str.ofString "=F5") 1186, Value.str (Str.ofString "=F6") 1190, Value.str (Str.ofString "=F7") 1194, Value.str (Str.ofString "=F8") 1198, Value.str (Str.ofString "=F9") 1202, Value.str (Str.ofString "=FA") 1206, Value.str (Str.ofString "=FB") 1210, Value.str (Str.ofString "=FC") 1214, Value.str (Str.ofString "=FD") 1218, Value.str (Str.ofString "=FE") 1222, Value.str (Str.ofString "=FF") 1226] }
noncomputable def ob32v0 (_ : Params) : Obj := { cls := Value.type "bytes_iterator", data := Data.fields #[Value.none, Value.int 67 0] }
noncomputable def ob33v0 (_ : Params) : Obj := { cls := Value.type "tuple", data := Data.seq #[] }
noncomputable def ob34v0 (_ : Params) : Obj := { cls := Value.type "StopIteration", data := Data.fields #[Value.ref 33, Value.none, Value.none, Value.none, Value.bool false, Value.none] }
noncomputable def ob29v2 (P : Params) : Obj := { cls := Value.type "list", data := Data.seq #[Value.str (Str.ofString "=00") 206, Value.str (Str.ofString "=01") 210, Value.str (Str.ofString "=02") 214, Value.str (Str.ofString "=03") 218, Value.str (Str.ofString "=04") 222, Value.str (Str.ofString "=05") 226, Value.str (Str.ofString "=06") 230, Value.str (Str.ofString "=07") 234, Value.str (Str.ofString "=08") 238, Value.str (Str.ofString "=09") 242, Value.str (Str.ofString "=0A") 246, Value.str (Str.ofString "=0B") 250, Value.str (Str.ofString "=0C") 254, Value.str (Str.ofString "=0D") 258, Value.str (Str.ofString "=0E") 262, Value.str (Str.ofString "=0F") 266, Value.str (Str.ofString "=10") 270, Value.str (Str.ofString "=11") 274, Value.str (Str.ofString "=12") 278, Value.str (Str.ofString "=13") 282, Value.str (Str.ofString "=14") 286, Value.str (Str.ofString "=15") 290, Value.str (Str.ofString "=16") 294, Value.str (Str.ofString "=17") 298, Value.str (Str.ofString "=18") 302, Value.str (Str.ofString "=19") 306, Value.str (Str.ofString "=1A") 310, Value.str (Str.ofString "=1B") 314, Value.str (Str.ofString "=1C") 318, Value.str (Str.ofString "=1D") 322, Value.str (Str.ofString "=1E") 326, Value.str (Str.ofString "=1F") 330, Value.str (Str.ofString "_") 1448, Value.str (Str.ofString "!") 1252, Value.str (Str.ofString "=22") 342, Value.str (Str.ofString "=23") 346, Value.str (Str.ofString "=24") 350, Value.str (Str.ofString "=25") 354, Value.str (Str.ofString "=26") 358, Value.str (Str.ofString "=27") 362, Value.str (Str.ofString "=28") 366, Value.str (Str.ofString "=29") 370, Value.str (Str.ofString "*") 1255, Value.str (Str.ofString "+") 1258, Value.str (Str.ofString "=2C") 382, Value.str (Str.ofString "-") 1249, Value.str (Str.ofString "=2E") 390, Value.str (Str.ofString "/") 1261, Value.str (Str.ofString "0") 1420, Value.str (Str.ofString "1") 1423, Value.str (Str.ofString "2") 1426, Value.str (Str.ofString "3") 1429, Value.str (Str.ofString "4") 1432, Value.str (Str.ofString "5") 1435, Value.str (Str.ofString "6") 1438, Value.str (Str.ofString "7") 1441, Value.str (Str.ofString "8") 1444, Value.str (Str.ofString "9") 1447, Value.str (Str.ofString "=3A") 438, Value.str (Str.ofString "=3B") 442, Value.str (Str.ofString "=3C") 446, Value.str (Str.ofString "=3D") 450, Value.str (Str.ofString "=3E") 454, Value.str (Str.ofString "=3F") 458, Value.str (Str.ofString "=40") 462, Value.str (Str.ofString "A") 1342, Value.str (Str.ofString "B") 1345, Value.str (Str.ofString "C") 1348, Value.str (Str.ofString "D") 1351, Value.str (Str.ofString "E") 1354, Value.str (Str.ofString "F") 1357, Value.str (Str.ofString "G") 1360, Value.str (Str.ofString "H") 1363, Value.str (Str.ofString "I") 1366, Value.str (Str.ofString "J") 1369, Value.str (Str.ofString "K") 1372, Value.str (Str.ofString "L") 1375, Value.str (Str.ofString "M") 1378, Value.str (Str.ofString "N") 1381, Value.str (Str.ofString "O") 1384, Value.str (Str.ofString "P") 1387, Value.str (Str.ofString "Q") 1390, Value.str (Str.ofString "R") 1393, Value.str (Str.ofString "S") 1396, Value.str (Str.ofString "T") 1399, Value.str (Str.ofString "U") 1402, Value.str (Str.ofString "V") 1405, Value.str (Str.ofString "W") 1408, Value.str (Str.ofString "X") 1411, Value.str (Str.ofString "Y") 1414, Value.str (Str.ofString "Z") 1417, Value.str (Str.ofString "=5B") 570, Value.str (Str.ofString "=5C") 574, Value.str (Str.ofString "=5D") 578, Value.str (Str.ofString "=5E") 582, Value.str (Str.ofString "=5F") 586, Value.str (Str.ofString "=60") 590, Value.str (Str.ofString "a") 1264, Value.str (Str.ofString "b") 1267, Value.str (Str.ofString "c") 1270, Value.str (Str.ofString "d") 1273, Value.str (Str.ofString "e") 1276, Value.str (Str.ofString "f") 1279, Value.str (Str.ofString "g") 1282, Value.str (Str.ofString "h") 1285, Value.str (Str.ofString "i") 1288, Value.str (Str.ofString "j") 1291, Value.str (Str.ofString "k") 1294, Value.str (Str.ofString "l") 1297, Value.str (Str.ofString "m") 1300, Value.str (Str.ofString "n") 1303, Value.str (Str.ofString "o") 1306, Value.str (Str.ofString "p") 1309, Value.str (Str.ofString "q") 1312, Value.str (Str.ofString "r") 1315, Value.str (Str.ofString "s") 1318, Value.str (Str.ofString "t") 1321, Value.str (Str.ofString "u") 1324, Value.str (Str.ofString "v") 1327, Value.str (Str.ofString "w") 1330, Value.str (Str.ofString "x") 1333, Value.str (Str.ofString "y") 1336, Value.str (Str.ofString "z") 1339, Value.str (Str.ofString "=7B") 698, Value.str (Str.ofString "=7C") 702, Value.str (Str.ofString "=7D") 706, Value.str (Str.ofString "=7E") 710, Value.str (Str.ofString "=7F") 714, Value.str (Str.ofString "=80") 718, Value.str (Str.ofString "=81") 722, Value.str (Str.ofString "=82") 726, Value.str (Str.ofString "=83") 730, Value.str (Str.ofString "=84") 734, Value.str (Str.ofString "=85") 738, Value.str (Str.ofString "=86") 742, Value.str (Str.ofString "=87") 746, Value.str (Str.ofString "=88") 750, Value.str (Str.ofString "=89") 754, Value.str (Str.ofString "=8A") 758, Value.str (Str.ofString "=8B") 762, Value.str (Str.ofString "=8C") 766, Value.str (Str.ofString "=8D") 770, Value.str (Str.ofString "=8E") 774, Value.str (Str.ofString "=8F") 778, Value.str (Str.ofString "=90") 782, Value.str (Str.ofString "=91") 786, Value.str (Str.ofString "=92") 790, Value.str (Str.ofString "=93") 794, Value.str (Str.ofString "=94") 798, Value.str (Str.ofString "=95") 802, Value.str (Str.ofString "=96") 806, Value.str (Str.ofString "=97") 810, Value.str (Str.ofString "=98") 814, Value.str (Str.ofString "=99") 818, Value.str (Str.ofString "=9A") 822, Value.str (Str.ofString "=9B") 826, Value.str (Str.ofString "=9C") 830, Value.str (Str.ofString "=9D") 834, Value.str (Str.ofString "=9E") 838, Value.str (Str.ofString "=9F") 842, Value.str (Str.ofString "=A0") 846, Value.str (Str.ofString "=A1") 850, Value.str (Str.ofString "=A2") 854, Value.str (Str.ofString "=A3") 858, Value.str (Str.ofString "=A4") 862, Value.str (Str.ofString "=A5") 866, Value.str (Str.ofString "=A6") 870, Value.str (Str.ofString "=A7") 874, Value.str (Str.ofString "=A8") 878, Value.str (Str.ofString "=A9") 882, Value.str (Str.ofString "=AA") 886, Value.str (Str.ofString "=AB") 890, Value.str (Str.ofString "=AC") 894, Value.str (Str.ofString "=AD") 898, Value.str (Str.ofString "=AE") 902, Value.str (Str.ofString "=AF") 906, Value.str (Str.ofString "=B0") 910, Value.str (Str.ofString "=B1") 914, Value.str (Str.ofString "=B2") 918, Value.str (Str.ofString "=B3") 922, Value.str (Str.ofString "=B4") 926, Value.str (Str.ofString "=B5") 930, Value.str (Str.ofString "=B6") 934, Value.str (Str.ofString "=B7") 938, Value.str (Str.ofString "=B8") 942, Value.str (Str.ofString "=B9") 946, Value.str (Str.ofString "=BA") 950, Value.str (Str.ofString "=BB") 954, Value.str (Str.ofString "=BC") 958, Value.str (Str.ofString "=BD") 962, Value.str (Str.ofString "=BE") 966, Value.str (Str.ofString "=BF") 970, Value.str (Str.ofString "=C0") 974, Value.str (Str.ofString "=C1") 978, Value.str (Str.ofString "=C2") 982, Value.str (Str.ofString "=C3") 986, Value.str (Str.ofString "=C4") 990, Value.str (Str.ofString "=C5") 994, Value.str (Str.ofString "=C6") 998, Value.str (Str.ofString "=C7") 1002, Value.str (Str.ofString "=C8") 1006, Value.str (Str.ofString "=C9") 1010, Value.str (Str.ofString "=CA") 1014, Value.str (Str.ofString "=CB") 1018, Value.str (Str.ofString "=CC") 1022, Value.str (Str.ofString "=CD") 1026, Value.str (Str.ofString "=CE") 1030, Value.str (Str.ofString "=CF") 1034, Value.str (Str.ofString "=D0") 1038, Value.str (Str.ofString "=D1") 1042, Value.str (Str.ofString "=D2") 1046, Value.str (Str.ofString "=D3") 1050, Value.str (Str.ofString "=D4") 1054, Value.str (Str.ofString "=D5") 1058, Value.str (Str.ofString "=D6") 1062, Value.str (Str.ofString "=D7") 1066, Value.str (Str.ofString "=D8") 1070, Value.str (Str.ofString "=D9") 1074, Value.str (Str.ofString "=DA") 1078, Value.str (Str.ofString "=DB") 1082, Value.str (Str.ofString "=DC") 1086, Value.str (Str.ofString "=DD") 1090, Value.str (Str.ofString "=DE") 1094, Value.str (Str.ofString "=DF") 1098, Value.str (Str.ofString "=E0") 1102, Value.str (Str.ofString "=E1") 1106, Value.str (Str.ofString "=E2") 1110, Value.str (Str.ofString "=E3") 1114, Value.str (Str.ofString "=E4") 1118, Value.str (Str.ofString "=E5") 1122, Value.str (Str.ofString "=E6") 1126, Value.str (Str.ofString "=E7") 1130, Value.str (Str.ofString "=E8") 1134, Value.str (Str.ofString "=E9") 1138, Value.str (Str.ofString "=EA") 1142, Value.str (Str.ofString "=EB") 1146, Value.str (Str.ofString "=EC") 1150, Value.str (Str.ofString "=ED") 1154, Value.str (Str.ofString "=EE") 1158, Value.str (Str.ofString "=EF") 1162, Value.str (Str.ofString "=F0") 1166, Value.str (Str.ofString "=F1") 1170, Value.str (Str.ofString "=F2") 1174, Value.str (Str.ofString "=F3") 1178, Value.str (Str.ofString "=F4") 1182, Value.str (Str.ofString "=F5") 1186, Value.str (Str.ofString "=F6") 1190, Value.str (Str.ofString "=F7") 1194, Value.str (Str.ofString "=F8") 1198, Value.str (Str.ofString "=F9") 1202, Value.str (Str.ofString "=FA") 1206, Value.str (Str.ofString "=FB") 1210, Value.str (Str.ofString "=FC") 1214, Value.str (Str.ofString "=FD") 1218, Value.str (Str.ofString "=FE") 1222, Value.str (Str.ofString "=FF") 1226] }
noncomputable def ob3v4 (P : Params) : Obj := { cls := Value.type "dict", data := Data.dict #[{ hash := PyData.keyHash P (Str.ofString "__name__"), key := Value.str (Str.ofString "__name__") 165, val := Value.str (Str.ofString "cpy313.email.quoprimime") 1238 }, { hash := PyData.keyHash P (Str.ofString "__doc__"), key := Value.str (Str.ofString "__doc__") 166, val := Value.none }, { hash := PyData.keyHash P (Str.ofString "__package__"), key := Value.str (Str.ofString "__package__") 167, val := Value.none }, { hash := PyData.keyHash P (Str.ofString "__loader__"), key := Value.str (Str.ofString "__loader__") 168, val := Value.builtin "__main__.__loader__#opaque" }, { hash := PyData.keyHash P (Str.ofString "__spec__"), key := Value.str (Str.ofString "__spec__") 169, val := Value.none }, { hash := PyData.keyHash P (Str.ofString "__annotations__"), key := Value.str (Str.ofString "__annotations__") 170, val := Value.ref 6 }, { hash := PyData.keyHash P (Str.ofString "__builtins__"), key := Value.str (Str.ofString "__builtins__") 171, val := Value.ref 4 }, { hash := PyData.keyHash P (Str.ofString "__file__"), key := Value.str (Str.ofString "__file__") 173, val := Value.str (Str.ofString "/claim/cut.py") 172 }, { hash := PyData.keyHash P (Str.ofString "__cached__"), key := Value.str (Str.ofString "__cached__") 174, val := Value.none }, { hash := PyData.keyHash P (Str.ofString "_NO_LINENO"), key := Value.str (Str.ofString "_NO_LINENO") 190, val := Value.str (Str.ofString "  --") 189 }, { hash := PyData.keyHash P (Str.ofString "_get_lineno_width"), key := Value.str (Str.ofString "_get_lineno_width") 199, val := Value.ref 21 }, { hash := PyData.keyHash P (Str.ofString "_QUOPRI_MAP"), key := Value.str (Str.ofString "_QUOPRI_MAP") 1227, val := Value.ref 24 }, { hash := PyData.keyHash P (Str.ofString "_QUOPRI_HEADER_MAP"), key := Value.str (Str.ofString "_QUOPRI_HEADER_MAP") 1228, val := Value.ref 29 }, { hash := PyData.keyHash P (Str.ofString "_QUOPRI_BODY_MAP"), key := Value.str (Str.ofString "_QUOPRI_BODY_MAP") 1229, val := Value.ref 31 }, { hash := PyData.keyHash P (Str.ofString "ascii_lowercase"), key := Value.str (Str.ofString "ascii_lowercase") 1231, val := Value.str (Str.ofString "abcdefghijklmnopqrstuvwxyz") 1230 }, { hash := PyData.keyHash P (Str.ofString "ascii_uppercase"), key := Value.str (Str.ofString "ascii_uppercase") 1233, val := Value.str (Str.ofString "ABCDEFGHIJKLMNOPQRSTUVWXYZ") 1232 }, { hash := PyData.keyHash P (Str.ofString "ascii_letters"), key := Value.str (Str.ofString "ascii_letters") 1235, val := Value.str (Str.ofString "abcdefghijklmnopqrstuvwxyzABCDEFGHIJKLMNOPQRSTUVWXYZ") 1234 }, { hash := PyData.keyHash P (Str.ofString "digits"), key := Value.str (Str.ofString "digits") 1237, val := Value.str (Str.ofString "0123456789") 1236 }, { hash := PyData.keyHash P (Str.ofString "c"), key := Value.str (Str.ofString "c") 1248, val := Value.int 9 1734 }] 19 }
noncomputable def ob31v1 (P : Params) : Obj := { cls := Value.type "list", data := Data.seq #[Value.str (Str.ofString "=00") 206, Value.str (Str.ofString "=01") 210, Value.str (Str.ofString "=02") 214, Value.str (Str.ofString "=03") 218, Value.str (Str.ofString "=04") 222, Value.str (Str.ofString "=05") 226, Value.str (Str.ofString "=06") 230, Value.str (Str.ofString "=07") 234, Value.str (Str.ofString "=08") 238, Value.str (Str.ofString "\t") 1736, Value.str (Str.ofString "=0A") 246, Value.str (Str.ofString "=0B") 250, Value.str (Str.ofString "=0C") 254, Value.str (Str.ofString "=0D") 258, Value.str (Str.ofString "=0E") 262, Value.str (Str.ofString "=0F") 266, Value.str (Str.ofString "=10") 270, Value.str (Str.ofString "=11") 274, Value.str (Str.ofString "=12") 278, Value.str (Str.ofString "=13") 282, Value.str (Str.ofString "=14") 286, Value.str (Str.ofString "=15") 290, Value.str (Str.ofString "=16") 294, Value.str (Str.ofString "=17") 298, Value.str (Str.ofString "=18") 302, Value.str (Str.ofString "=19") 306, Value.str (Str.ofString "=1A") 310, Value.str (Str.ofString "=1B") 314, Value.str (Str.ofString "=1C") 318, Value.str (Str.ofString "=1D") 322, Value.str (Str.ofString "=1E") 326, Value.str (Str.ofString "=1F") 330, Value.str (Str.ofString " ") 1454, Value.str (Str.ofString "!") 1457, Value.str (Str.ofString "\"") 1460, Value.str (Str.ofString "#") 1463, Value.str (Str.ofString "$") 1466, Value.str (Str.ofString "%") 1469, Value.str (Str.ofString "&") 1472, Value.str (Str.ofString "'") 1475, Value.str (Str.ofString "(") 1478, Value.str (Str.ofString ")") 1481, Value.str (Str.ofString "*") 1484, Value.str (Str.ofString "+") 1487, Value.str (Str.ofString ",") 1490, Value.str (Str.ofString "-") 1493, Value.str (Str.ofString ".") 1496, Value.str (Str.ofString "/") 1499, Value.str (Str.ofString "0") 1502, Value.str (Str.ofString "1") 1505, Value.str (Str.ofString "2") 1508, Value.str (Str.ofString "3") 1511, Value.str (Str.ofString "4") 1514, Value.str (Str.ofString "5") 1517, Value.str (Str.ofString "6") 1520, Value.str (Str.ofString "7") 1523, Value.str (Str.ofString "8") 1526, Value.str (Str.ofString "9") 1529, Value.str (Str.ofString ":") 1532, Value.str (Str.ofString ";") 1535, Value.str (Str.ofString "<") 1538, Value.str (Str.ofString "=3D") 450, Value.str (Str.ofString ">") 1541, Value.str (Str.ofString "?") 1544, Value.str (Str.ofString "@") 1547, Value.str (Str.ofString "A") 1550, Value.str (Str.ofString "B") 1553, Value.str (Str.ofString "C") 1556, Value.str (Str.ofString "D") 1559, Value.str (Str.ofString "E") 1562, Value.str (Str.ofString "F") 1565, Value.str (Str.ofString "G") 1568, Value.str (Str.ofString "H") 1571, Value.str (Str.ofString "I") 1574, Value.str (Str.ofString "J") 1577, Value.str (Str.ofString "K") 1580, Value.str (Str.ofString "L") 1583, Value.str (Str.ofString "M") 1586, Value.str (Str.ofString "N") 1589, Value.str (Str.ofString "O") 1592, Value.str (Str.ofString "P") 1595, Value.str (Str.ofString "Q") 1598, Value.str (Str.ofString "R") 1601, Value.str (Str.ofString "S") 1604, Value.str (Str.ofString "T") 1607, Value.str (Str.ofString "U") 1610, Value.str (Str.ofString "V") 1613, Value.str (Str.ofString "W") 1616, Value.str (Str.ofString "X") 1619, Value.str (Str.ofString "Y") 1622, Value.str (Str.ofString "Z") 1625, Value.str (Str.ofString "[") 1628, Value.str (Str.ofString "\\") 1631, Value.str (Str.ofString "]") 1634, Value.str (Str.ofString "^") 1637, Value.str (Str.ofString "_") 1640, Value.str (Str.ofString "`") 1643, Value.str (Str.ofString "a") 1646, Value.str (Str.ofString "b") 1649, Value.str (Str.ofString "c") 1652, Value.str (Str.ofString "d") 1655, Value.str (Str.ofString "e") 1658, Value.str (Str.ofString "f") 1661, Value.str (Str.ofString "g") 1664, Value.str (Str.ofString "h") 1667, Value.str (Str.ofString "i") 1670, Value.str (Str.ofString "j") 1673, Value.str (Str.ofString "k") 1676, Value.str (Str.ofString "l") 1679, Value.str (Str.ofString "m") 1682, Value.str (Str.ofString "n") 1685, Value.str (Str.ofString "o") 1688, Value.str (Str.ofString "p") 1691, Value.str (Str.ofString "q") 1694, Value.str (Str.ofString "r") 1697, Value.str (Str.ofString "s") 1700, Value.str (Str.ofString "t") 1703, Value.str (Str.ofString "u") 1706, Value.str (Str.ofString "v") 1709, Value.str (Str.ofString "w") 1712, Value.str (Str.ofString "x") 1715, Value.str (Str.ofString "y") 1718, Value.str (Str.ofString "z") 1721, Value.str (Str.ofString "{") 1724, Value.str (Str.ofString "|") 1727, Value.str (Str.ofString "}") 1730, Value.str (Str.ofString "~") 1733, Value.str (Str.ofString "=7F") 714, Value.str (Str.ofString "=80") 718, Value.str (Str.ofString "=81") 722, Value.str (Str.ofString "=82") 726, Value.str (Str.ofString "=83") 730, Value.str (Str.ofString "=84") 734, Value.str (Str.ofString "=85") 738, Value.str (Str.ofString "=86") 742, Value.str (Str.ofString "=87") 746, Value.str (Str.ofString "=88") 750, Value.str (Str.ofString "=89") 754, Value.str (Str.ofString "=8A") 758, Value.str (Str.ofString "=8B") 762, Value.str (Str.ofString "=8C") 766, Value.str (Str.ofString "=8D") 770, Value.str (Str.ofString "=8E") 774, Value.str (Str.ofString "=8F") 778, Value.str (Str.ofString "=90") 782, Value.str (Str.ofString "=91") 786, Value.str (Str.ofString "=92") 790, Value.str (Str.ofString "=93") 794, Value.str (Str.ofString "=94") 798, Value.str (Str.ofString "=95") 802, Value.str (Str.ofString "=96") 806, Value.str (Str.ofString "=97") 810, Value.str (Str.ofString "=98") 814, Value.str (Str.ofString "=99") 818, Value.str (Str.ofString "=9A") 822, Value.str (Str.ofString "=9B") 826, Value.str (Str.ofString "=9C") 830, Value.str (Str.ofString "=9D") 834, Value.str (Str.ofString "=9E") 838, Value.str (Str.ofString "=9F") 842, Value.str (Str.ofString "=A0") 846, Value.str (Str.ofString "=A1") 850, Value.str (Str.ofString "=A2") 854, Value.str (Str.ofString "=A3") 858, Value.str (Str.ofString "=A4") 862, Value.str (Str.ofString "=A5") 866, Value.str (Str.ofString "=A6") 870, Value.str (Str.ofString "=A7") 874, Value.str (Str.ofString "=A8") 878, Value.str (Str.ofString "=A9") 882, Value.str (Str.ofString "=AA") 886, Value.str (Str.ofString "=AB") 890, Value.str (Str.ofString "=AC") 894, Value.str (Str.ofString "=AD") 898, Value.str (Str.ofString "=AE") 902, Value.str (Str.ofString "=AF") 906, Value.str (Str.ofString "=B0") 910, Value.str (Str.ofString "=B1") 914, Value.str (Str.ofString "=B2") 918, Value.str (Str.ofString "=B3") 922, Value.str (Str.ofString "=B4") 926, Value.str (Str.ofString "=B5") 930, Value.str (Str.ofString "=B6") 934, Value.str (Str.ofString "=B7") 938, Value.str (Str.ofString "=B8") 942, Value.str (Str.ofString "=B9") 946, Value.str (Str.ofString "=BA") 950, Value.str (Str.ofString "=BB") 954, Value.str (Str.ofString "=BC") 958, Value.str (Str.ofString "=BD") 962, Value.str (Str.ofString "=BE") 966, Value.str (Str.ofString "=BF") 970, Value.str (Str.ofString "=C0") 974, Value.str (Str.ofString "=C1") 978, Value.str (Str.ofString "=C2") 982, Value.str (Str.ofString "=C3") 986, Value.str (Str.ofString "=C4") 990, Value.str (Str.ofString "=C5") 994, Value.str (Str.ofString "=C6") 998, Value.str (Str.ofString "=C7") 1002, Value.str (Str.ofString "=C8") 1006, Value.str (Str.ofString "=C9") 1010, Value.str (Str.ofString "=CA") 1014, Value.str (Str.ofString "=CB") 1018, Value.str (Str.ofString "=CC") 1022, Value.str (Str.ofString "=CD") 1026, Value.str (Str.ofString "=CE") 1030, Value.str (Str.ofString "=CF") 1034, Value.str (Str.ofString "=D0") 1038, Value.str (Str.ofString "=D1") 1042, Value.str (Str.ofString "=D2") 1046, Value.str (Str.ofString "=D3") 1050, Value.str (Str.ofString "=D4") 1054, Value.str (Str.ofString "=D5") 1058, Value.str (Str.ofString "=D6") 1062, Value.str (Str.ofString "=D7") 1066, Value.str (Str.ofString "=D8") 1070, Value.str (Str.ofString "=D9") 1074, Value.str (Str.ofString "=DA") 1078, Value.str (Str.ofString "=DB") 1082, Value.str (Str.ofString "=DC") 1086, Value.str (Str.ofString "=DD") 1090, Value.str (Str.ofString "=DE") 1094, Value.str (Str.ofString "=DF") 1098, Value.str (Str.ofString "=E0") 1102, Value.str (Str.ofString "=E1") 1106, Value.str (Str.ofString "=E2") 1110, Value.str (Str.ofString "=E3") 1114, Value.str (Str.ofString "=E4") 1118, Value.str (Str.ofString "=E5") 1122, Value.str (Str.ofString "=E6") 1126, Value.str (Str.ofString "=E7") 1130, Value.str (Str.ofString "=E8") 1134, Value.str (Str.ofString "=E9") 1138, Value.str (Str.ofString "=EA") 1142, Value.str (Str.ofString "=EB") 1146, Value.str (Str.ofString "=EC") 1150, Value.str (Str.ofString "=ED") 1154, Value.str (Str.ofString "=EE") 1158, Value.str (Str.ofString "=EF") 1162, Value.str (Str.ofString "=F0") 1166, Value.str (Str.ofString "=F1") 1170, Value.str (Str.ofString "=F2") 1174, Value.str (Str.ofString "=F3") 1178, Value.str (Str.ofString "=F4") 1182, Value.str (Str.ofString "=F5") 1186, Value.str (Str.ofString "=F6") 1190, Value.str (Str.ofString "=F7") 1194, Value.str (Str.ofString "=F8") 1198, Value.str (Str.ofString "=F9") 1202, Value.str (Str.ofString "=FA") 1206, Value.str (Str.ofString "=FB") 1210, Value.str (Str.ofString "=FC") 1214, Value.str (Str.ofString "=FD") 1218, Value.str (Str.ofString "=FE") 1222, Value.str (Str.ofString "=FF") 1226] }
noncomputable def ob35v0 (_ : Params) : Obj := { cls := Value.type "bytes_iterator", data := Data.fields #[Value.none, Value.int 95 0] }
noncomputable def ob36v0 (_ : Params) : Obj := { cls := Value.type "tuple", data := Data.seq #[] }
noncomputable def ob37v0 (_ : Params) : Obj := { cls := Value.type "StopIteration", data := Data.fields #[Value.ref 36, Value.none, Value.none, Value.none, Value.bool false, Value.none] }
noncomputable def ob3v5 (P : Params) : Obj := { cls := Value.type "dict", data := Data.dict #[{ hash := PyData.keyHash P (Str.ofString "__name__"), key := Value.str (Str.ofString "__name__") 165, val := Value.str (Str.ofString "law_ny0026_01") 1755 }, { hash := PyData.keyHash P (Str.ofString "__doc__"), key := Value.str (Str.ofString "__doc__") 166, val := Value.none }, { hash := PyData.keyHash P (Str.ofString "__package__"), key := Value.str (Str.ofString "__package__") 167, val := Value.none }, { hash := PyData.keyHash P (Str.ofString "__loader__"), key := Value.str (Str.ofString "__loader__") 168, val := Value.builtin "__main__.__loader__#opaque" }, { hash := PyData.keyHash P (Str.ofString "__spec__"), key := Value.str (Str.ofString "__spec__") 169, val := Value.none }, { hash := PyData.keyHash P (Str.ofString "__annotations__"), key := Value.str (Str.ofString "__annotations__") 170, val := Value.ref 6 }, { hash := PyData.keyHash P (Str.ofString "__builtins__"), key := Value.str (Str.ofString "__builtins__") 171, val := Value.ref 4 }, { hash := PyData.keyHash P (Str.ofString "__file__"), key := Value.str (Str.ofString "__file__") 173, val := Value.str (Str.ofString "/claim/cut.py") 172 }, { hash := PyData.keyHash P (Str.ofString "__cached__"), key := Value.str (Str.ofString "__cached__") 174, val := Value.none }, { hash := PyData.keyHash P (Str.ofString "_NO_LINENO"), key := Value.str (Str.ofString "_NO_LINENO") 190, val := Value.str (Str.ofString "  --") 189 }, { hash := PyData.keyHash P (Str.ofString "_get_lineno_width"), key := Value.str (Str.ofString "_get_lineno_width") 199, val := Value.ref 21 }, { hash := PyData.keyHash P (Str.ofString "_QUOPRI_MAP"), key := Value.str (Str.ofString "_QUOPRI_MAP") 1227, val := Value.ref 24 }, { hash := PyData.keyHash P (Str.ofString "_QUOPRI_HEADER_MAP"), key := Value.str (Str.ofString "_QUOPRI_HEADER_MAP") 1228, val := Value.ref 29 }, { hash := PyData.keyHash P (Str.ofString "_QUOPRI_BODY_MAP"), key := Value.str (Str.ofString "_QUOPRI_BODY_MAP") 1229, val := Value.ref 31 }, { hash := PyData.keyHash P (Str.ofString "ascii_lowercase"), key := Value.str (Str.ofString "ascii_lowercase") 1231, val := Value.str (Str.ofString "abcdefghijklmnopqrstuvwxyz") 1230 }, { hash := PyData.keyHash P (Str.ofString "ascii_uppercase"), key := Value.str (Str.ofString "ascii_uppercase") 1233, val := Value.str (Str.ofString "ABCDEFGHIJKLMNOPQRSTUVWXYZ") 1232 }, { hash := PyData.keyHash P (Str.ofString "ascii_letters"), key := Value.str (Str.ofString "ascii_letters") 1235, val := Value.str (Str.ofString "abcdefghijklmnopqrstuvwxyzABCDEFGHIJKLMNOPQRSTUVWXYZ") 1234 }, { hash := PyData.keyHash P (Str.ofString "digits"), key := Value.str (Str.ofString "digits") 1237, val := Value.str (Str.ofString "0123456789") 1236 }, { hash := PyData.keyHash P (Str.ofString "header_encode"), key := Value.str (Str.ofString "header_encode") 1746, val := Value.ref 45 }, { hash := PyData.keyHash P (Str.ofString "_QUOPRI_BODY_ENCODE_MAP"), key := Value.str (Str.ofString "_QUOPRI_BODY_ENCODE_MAP") 1747, val := Value.ref 47 }, { hash := PyData.keyHash P (Str.ofString "_law_rows"), key := Value.str (Str.ofString "_law_rows") 1769, val := Value.ref 57 }, { hash := PyData.keyHash P (Str.ofString "_law_ranks"), key := Value.str (Str.ofString "_law_ranks") 1778, val := Value.ref 64 }, { hash := PyData.keyHash P (Str.ofString "_law_spelled"), key := Value.str (Str.ofString "_law_spelled") 1789, val := Value.ref 71 }, { hash := PyData.keyHash P (Str.ofString "_law_above"), key := Value.str (Str.ofString "_law_above") 1798, val := Value.ref 78 }, { hash := PyData.keyHash P (Str.ofString "law"), key := Value.str (Str.ofString "law") 1804, val := Value.ref 83 }] 27 }
noncomputable def ob12v2 (_ : Params) : Obj := { cls := Value.none, data := Data.fields #[Value.int 3 0, Value.int 0 0, Value.ref 20, Value.int 26 0, Value.int 0 0, Value.ref 44, Value.int 36 0, Value.int 0 0, Value.ref 56, Value.int 46 0, Value.int 0 0, Value.ref 63, Value.int 56 0, Value.int 0 0, Value.ref 70, Value.int 64 0, Value.int 0 0, Value.ref 77, Value.int 69 0, Value.int 0 0, Value.ref 82] }
noncomputable def ob38v0 (_ : Params) : Obj := { cls := Value.type "tuple", data := Data.seq #[Value.str (Str.ofString "iso-8859-1") 1737] }
noncomputable def ob39v0 (_ : Params) : Obj := { cls := Value.type "tuple", data := Data.seq #[] }
noncomputable def ob40v0 (_ : Params) : Obj := { cls := Value.none, data := Data.fields #[] }
noncomputable def ob41v0 (_ : Params) : Obj := { cls := Value.type "tuple", data := Data.seq #[Value.str (Str.ofString "header_bytes") 1741, Value.str (Str.ofString "charset") 1742, Value.str (Str.ofString "encoded") 1743] }
noncomputable def ob42v0 (_ : Params) : Obj := { cls := Value.type "tuple", data := Data.seq #[] }
noncomputable def ob43v0 (_ : Params) : Obj := { cls := Value.none, data := Data.func { name := Str.ofString "header_encode", qualname := Str.ofString "header_encode", params := fnP 14, body := FuncBody.stmts (fnB 14), scope := fnS 14, globals := 0, closure := [], defaults := Value.none, kwdefaults := Value.none } }
noncomputable def ob44v0 (_ : Params) : Obj := { cls := Value.type "code", data := Data.fields #[Value.str (Str.ofString "header_encode") 1738, Value.str (Str.ofString "header_encode") 1739, Value.str (Str.ofString "/claim/cut.py") 1740, Value.int 26 0, Value.int 2 0, Value.int 0 0, Value.int 0 0, Value.int 3 0, Value.ref 39, Value.bool true, Value.int 181 0, Value.ref 40, Value.none, Value.ref 41, Value.ref 42, Value.ref 43, Value.int 1744 0, Value.int 26 0, Value.str (Str.ofString "/claim/cut.py") 1745] }
noncomputable def ob45v0 (_ : Params) : Obj := { cls := Value.type "function", data := Data.func { name := Str.ofString "header_encode", qualname := Str.ofString "header_encode", params := fnP 14, body := FuncBody.stmts (fnB 14), scope := fnS 14, globals := 3, closure := [], defaults := Value.ref 38, kwdefaults := Value.none, pyModule := Value.str (Str.ofString "cpy313.email.quoprimime") 1238, code := Value.ref 44 } }
noncomputable def ob46v0 (_ : Params) : Obj := { cls := Value.type "slice", data := Data.fields #[Value.none, Value.none, Value.none] }
noncomputable def ob47v0 (P : Params) : Obj := { cls := Value.type "list", data := Data.seq #[Value.str (Str.ofString "=00") 206, Value.str (Str.ofString "=01") 210, Value.str (Str.ofString "=02") 214, Value.str (Str.ofString "=03") 218, Value.str (Str.ofString "=04") 222, Value.str (Str.ofString "=05") 226, Value.str (Str.ofString "=06") 230, Value.str (Str.ofString "=07") 234, Value.str (Str.ofString "=08") 238, Value.str (Str.ofString "\t") 1736, Value.str (Str.ofString "\n") 1754, Value.str (Str.ofString "=0B") 250, Value.str (Str.ofString "=0C") 254, Value.str (Str.ofString "\x0d") 1751, Value.str (Str.ofString "=0E") 262, Value.str (Str.ofString "=0F") 266, Value.str (Str.ofString "=10") 270, Value.str (Str.ofString "=11") 274, Value.str (Str.ofString "=12") 278, Value.str (Str.ofString "=13") 282, Value.str (Str.ofString "=14") 286, Value.str (Str.ofString "=15") 290, Value.str (Str.ofString "=16") 294, Value.str (Str.ofString "=17") 298, Value.str (Str.ofString "=18") 302, Value.str (Str.ofString "=19") 306, Value.str (Str.ofString "=1A") 310, Value.str (Str.ofString "=1B") 314, Value.str (Str.ofString "=1C") 318, Value.str (Str.ofString "=1D") 322, Value.str (Str.ofString "=1E") 326, Value.str (Str.ofString "=1F") 330, Value.str (Str.ofString " ") 1454, Value.str (Str.ofString "!") 1457, Value.str (Str.ofString "\"") 1460, Value.str (Str.ofString "#") 1463, Value.str (Str.ofString "$") 1466, Value.str (Str.ofString "%") 1469, Value.str (Str.ofString "&") 1472, Value.str (Str.ofString "'") 1475, Value.str (Str.ofString "(") 1478, Value.str (Str.ofString ")") 1481, Value.str (Str.ofString "*") 1484, Value.str (Str.ofString "+") 1487, Value.str (Str.ofString ",") 1490, Value.str (Str.ofString "-") 1493, Value.str (Str.ofString ".") 1496, Value.str (Str.ofString "/") 1499, Value.str (Str.ofString "0") 1502, Value.str (Str.ofString "1") 1505, Value.str (Str.ofString "2") 1508, Value.str (Str.ofString "3") 1511, Value.str (Str.ofString "4") 1514, Value.str (Str.ofString "5") 1517, Value.str (Str.ofString "6") 1520, Value.str (Str.ofString "7") 1523, Value.str (Str.ofString "8") 1526, Value.str (Str.ofString "9") 1529, Value.str (Str.ofString ":") 1532, Value.str (Str.ofString ";") 1535, Value.str (Str.ofString "<") 1538, Value.str (Str.ofString "=3D") 450, Value.str (Str.ofString ">") 1541, Value.str (Str.ofString "?") 1544, Value.str (Str.ofString "@") 1547, Value.str (Str.ofString "A") 1550, Value.str (Str.ofString "B") 1553, Value.str (Str.ofString "C") 1556, Value.str (Str.ofString "D") 1559, Value.str (Str.ofString "E") 1562, Value.str (Str.ofString "F") 1565, Value.str (Str.ofString "G") 1568, Value.str (Str.ofString "H") 1571, Value.str (Str.ofString "I") 1574, Value.str (Str.ofString "J") 1577, Value.str (Str.ofString "K") 1580, Value.str (Str.ofString "L") 1583, Value.str (Str.ofString "M") 1586, Value.str (Str.ofString "N") 1589, Value.str (Str.ofString "O") 1592, Value.str (Str.ofString "P") 1595, Value.str (Str.ofString "Q") 1598, Value.str (Str.ofString "R") 1601, Value.str (Str.ofString "S") 1604, Value.str (Str.ofString "T") 1607, Value.str (Str.ofString "U") 1610, Value.str (Str.ofString "V") 1613, Value.str (Str.ofString "W") 1616, Value.str (Str.ofString "X") 1619, Value.str (Str.ofString "Y") 1622, Value.str (Str.ofString "Z") 1625, Value.str (Str.ofString "[") 1628, Value.str (Str.ofString "\\") 1631, Value.str (Str.ofString "]") 1634, Value.str (Str.ofString "^") 1637, Value.str (Str.ofString "_") 1640, Value.str (Str.ofString "`") 1643, Value.str (Str.ofString "a") 1646, Value.str (Str.ofString "b") 1649, Value.str (Str.ofString "c") 1652, Value.str (Str.ofString "d") 1655, Value.str (Str.ofString "e") 1658, Value.str (Str.ofString "f") 1661, Value.str (Str.ofString "g") 1664, Value.str (Str.ofString "h") 1667, Value.str (Str.ofString "i") 1670, Value.str (Str.ofString "j") 1673, Value.str (Str.ofString "k") 1676, Value.str (Str.ofString "l") 1679, Value.str (Str.ofString "m") 1682, Value.str (Str.ofString "n") 1685, Value.str (Str.ofString "o") 1688, Value.str (Str.ofString "p") 1691, Value.str (Str.ofString "q") 1694, Value.str (Str.ofString "r") 1697, Value.str (Str.ofString "s") 1700, Value.str (Str.ofString "t") 1703, Value.str (Str.ofString "u") 1706, Value.str (Str.ofString "v") 1709, Value.str (Str.ofString "w") 1712, Value.str (Str.ofString "x") 1715, Value.str (Str.ofString "y") 1718, Value.str (Str.ofString "z") 1721, Value.str (Str.ofString "{") 1724, Value.str (Str.ofString "|") 1727, Value.str (Str.ofString "}") 1730, Value.str (Str.ofString "~") 1733, Value.str (Str.ofString "=7F") 714, Value.str (Str.ofString "=80") 718, Value.str (Str.ofString "=81") 722, Value.str (Str.ofString "=82") 726, Value.str (Str.ofString "=83") 730, Value.str (Str.ofString "=84") 734, Value.str (Str.ofString "=85") 738, Value.str (Str.ofString "=86") 742, Value.str (Str.ofString "=87") 746, Value.str (Str.ofString "=88") 750, Value.str (Str.ofString "=89") 754, Value.str (Str.ofString "=8A") 758, Value.str (Str.ofString "=8B") 762, Value.str (Str.ofString "=8C") 766, Value.str (Str.ofString "=8D") 770, Value.str (Str.ofString "=8E") 774, Value.str (Str.ofString "=8F") 778, Value.str (Str.ofString "=90") 782, Value.str (Str.ofString "=91") 786, Value.str (Str.ofString "=92") 790, Value.str (Str.ofString "=93") 794, Value.str (Str.ofString "=94") 798, Value.str (Str.ofString "=95") 802, Value.str (Str.ofString "=96") 806, Value.str (Str.ofString "=97") 810, Value.str (Str.ofString "=98") 814, Value.str (Str.ofString "=99") 818, Value.str (Str.ofString "=9A") 822, Value.str (Str.ofString "=9B") 826, Value.str (Str.ofString "=9C") 830, Value.str (Str.ofString "=9D") 834, Value.str (Str.ofString "=9E") 838, Value.str (Str.ofString "=9F") 842, Value.str (Str.ofString "=A0") 846, Value.str (Str.ofString "=A1") 850, Value.str (Str.ofString "=A2") 854, Value.str (Str.ofString "=A3") 858, Value.str (Str.ofString "=A4") 862, Value.str (Str.ofString "=A5") 866, Value.str (Str.ofString "=A6") 870, Value.str (Str.ofString "=A7") 874, Value.str (Str.ofString "=A8") 878, Value.str (Str.ofString "=A9") 882, Value.str (Str.ofString "=AA") 886, Value.str (Str.ofString "=AB") 890, Value.str (Str.ofString "=AC") 894, Value.str (Str.ofString "=AD") 898, Value.str (Str.ofString "=AE") 902, Value.str (Str.ofString "=AF") 906, Value.str (Str.ofString "=B0") 910, Value.str (Str.ofString "=B1") 914, Value.str (Str.ofString "=B2") 918, Value.str (Str.ofString "=B3") 922, Value.str (Str.ofString "=B4") 926, Value.str (Str.ofString "=B5") 930, Value.str (Str.ofString "=B6") 934, Value.str (Str.ofString "=B7") 938, Value.str (Str.ofString "=B8") 942, Value.str (Str.ofString "=B9") 946, Value.str (Str.ofString "=BA") 950, Value.str (Str.ofString "=BB") 954, Value.str (Str.ofString "=BC") 958, Value.str (Str.ofString "=BD") 962, Value.str (Str.ofString "=BE") 966, Value.str (Str.ofString "=BF") 970, Value.str (Str.ofString "=C0") 974, Value.str (Str.ofString "=C1") 978, Value.str (Str.ofString "=C2") 982, Value.str (Str.ofString "=C3") 986, Value.str (Str.ofString "=C4") 990, Value.str (Str.ofString "=C5") 994, Value.str (Str.ofString "=C6") 998, Value.str (Str.ofString "=C7") 1002, Value.str (Str.ofString "=C8") 1006, Value.str (Str.ofString "=C9") 1010, Value.str (Str.ofString "=CA") 1014, Value.str (Str.ofString "=CB") 1018, Value.str (Str.ofString "=CC") 1022, Value.str (Str.ofString "=CD") 1026, Value.str (Str.ofString "=CE") 1030, Value.str (Str.ofString "=CF") 1034, Value.str (Str.ofString "=D0") 1038, Value.str (Str.ofString "=D1") 1042, Value.str (Str.ofString "=D2") 1046, Value.str (Str.ofString "=D3") 1050, Value.str (Str.ofString "=D4") 1054, Value.str (Str.ofString "=D5") 1058, Value.str (Str.ofString "=D6") 1062, Value.str (Str.ofString "=D7") 1066, Value.str (Str.ofString "=D8") 1070, Value.str (Str.ofString "=D9") 1074, Value.str (Str.ofString "=DA") 1078, Value.str (Str.ofString "=DB") 1082, Value.str (Str.ofString "=DC") 1086, Value.str (Str.ofString "=DD") 1090, Value.str (Str.ofString "=DE") 1094, Value.str (Str.ofString "=DF") 1098, Value.str (Str.ofString "=E0") 1102, Value.str (Str.ofString "=E1") 1106, Value.str (Str.ofString "=E2") 1110, Value.str (Str.ofString "=E3") 1114, Value.str (Str.ofString "=E4") 1118, Value.str (Str.ofString "=E5") 1122, Value.str (Str.ofString "=E6") 1126, Value.str (Str.ofString "=E7") 1130, Value.str (Str.ofString "=E8") 1134, Value.str (Str.ofString "=E9") 1138, Value.str (Str.ofString "=EA") 1142, Value.str (Str.ofString "=EB") 1146, Value.str (Str.ofString "=EC") 1150, Value.str (Str.ofString "=ED") 1154, Value.str (Str.ofString "=EE") 1158, Value.str (Str.ofString "=EF") 1162, Value.str (Str.ofString "=F0") 1166, Value.str (Str.ofString "=F1") 1170, Value.str (Str.ofString "=F2") 1174, Value.str (Str.ofString "=F3") 1178, Value.str (Str.ofString "=F4") 1182, Value.str (Str.ofString "=F5") 1186, Value.str (Str.ofString "=F6") 1190, Value.str (Str.ofString "=F7") 1194, Value.str (Str.ofString "=F8") 1198, Value.str (Str.ofString "=F9") 1202, Value.str (Str.ofString "=FA") 1206, Value.str (Str.ofString "=FB") 1210, Value.str (Str.ofString "=FC") 1214, Value.str (Str.ofString "=FD") 1218, Value.str (Str.ofString "=FE") 1222, Value.str (Str.ofString "=FF") 1226] }
noncomputable def ob48v0 (_ : Params) : Obj := { cls := Value.type "bytes_iterator", data := Data.fields #[Value.none, Value.int 2 0] }
noncomputable def ob49v0 (_ : Params) : Obj := { cls := Value.type "tuple", data := Data.seq #[] }
noncomputable def ob50v0 (_ : Params) : Obj := { cls := Value.type "StopIteration", data := Data.fields #[Value.ref 49, Value.none, Value.none, Value.none, Value.bool false, Value.none] }
noncomputable def ob51v0 (_ : Params) : Obj := { cls := Value.type "tuple", data := Data.seq #[] }
noncomputable def ob52v0 (_ : Params) : Obj := { cls := Value.none, data := Data.fields #[] }
noncomputable def ob53v0 (_ : Params) : Obj := { cls := Value.type "tuple", data := Data.seq #[Value.str (Str.ofString "script") 1760, Value.str (Str.ofString "rows") 1761, Value.str (Str.ofString "x") 1762, Value.str (Str.ofString "earlier") 1763, Value.str (Str.ofString "rest") 1764, Value.str (Str.ofString "cut") 1765, Value.str (Str.ofString "octet") 1766] }
noncomputable def ob54v0 (_ : Params) : Obj := { cls := Value.type "tuple", data := Data.seq #[] }
noncomputable def ob55v0 (_ : Params) : Obj := { cls := Value.none, data := Data.func { name := Str.ofString "_law_rows", qualname := Str.ofString "_law_rows", params := fnP 19, body := FuncBody.stmts (fnB 19), scope := fnS 19, globals := 0, closure := [], defaults := Value.none, kwdefaults := Value.none } }
noncomputable def ob56v0 (_ : Params) : Obj := { cls := Value.type "code", data := Data.fields #[Value.str (Str.ofString "_law_rows") 1757, Value.str (Str.ofString "_law_rows") 1758, Value.str (Str.ofString "/claim/cut.py") 1759, Value.int 36 0, Value.int 1 0, Value.int 0 0, Value.int 0 0, Value.int 3 0, Value.ref 51, Value.bool true, Value.int 181 0, Value.ref 52, Value.none, Value.ref 53, Value.ref 54, Value.ref 55, Value.int 1767 0, Value.int 36 0, Value.str (Str.ofString "/claim/cut.py") 1768] }
noncomputable def ob57v0 (_ : Params) : Obj := { cls := Value.type "function", data := Data.func { name := Str.ofString "_law_rows", qualname := Str.ofString "_law_rows", params := fnP 19, body := FuncBody.stmts (fnB 19), scope := fnS 19, globals := 3, closure := [], defaults := Value.none, kwdefaults := Value.none, pyModule := Value.str (Str.ofString "law_ny0026_01") 1755, code := Value.ref 56 } }
noncomputable def ob58v0 (_ : Params) : Obj := { cls := Value.type "tuple", data := Data.seq #[] }
noncomputable def ob59v0 (_ : Params) : Obj := { cls := Value.none, data := Data.fields #[] }
noncomputable def ob60v0 (_ : Params) : Obj := { cls := Value.type "tuple", data := Data.seq #[Value.str (Str.ofString "row") 1773, Value.str (Str.ofString "ranks") 1774, Value.str (Str.ofString "octet") 1775] }
noncomputable def ob61v0 (_ : Params) : Obj := { cls := Value.type "tuple", data := Data.seq #[] }
noncomputable def ob62v0 (_ : Params) : Obj := { cls := Value.none, data := Data.func { name := Str.ofString "_law_ranks", qualname := Str.ofString "_law_ranks", params := fnP 20, body := FuncBody.stmts (fnB 20), scope := fnS 20, globals := 0, closure := [], defaults := Value.none, kwdefaults := Value.none } }
noncomputable def ob63v0 (_ : Params) : Obj := { cls := Value.type "code", data := Data.fields #[Value.str (Str.ofString "_law_ranks") 1770, Value.str (Str.ofString "_law_ranks") 1771, Value.str (Str.ofString "/claim/cut.py") 1772, Value.int 46 0, Value.int 1 0, Value.int 0 0, Value.int 0 0, Value.int 3 0, Value.ref 58, Value.bool true, Value.int 181 0, Value.ref 59, Value.none, Value.ref 60, Value.ref 61, Value.ref 62, Value.int 1776 0, Value.int 46 0, Value.str (Str.ofString "/claim/cut.py") 1777] }
noncomputable def ob64v0 (_ : Params) : Obj := { cls := Value.type "function", data := Data.func { name := Str.ofString "_law_ranks", qualname := Str.ofString "_law_ranks", params := fnP 20, body := FuncBody.stmts (fnB 20), scope := fnS 20, globals := 3, closure := [], defaults := Value.none, kwdefaults := Value.none, pyModule := Value.str (Str.ofString "law_ny0026_01") 1755, code := Value.ref 63 } }
noncomputable def ob65v0 (_ : Params) : Obj := { cls := Value.type "tuple", data := Data.seq #[] }
noncomputable def ob66v0 (_ : Params) : Obj := { cls := Value.none, data := Data.fields #[] }
noncomputable def ob67v0 (_ : Params) : Obj := { cls := Value.type "tuple", data := Data.seq #[Value.str (Str.ofString "ranks") 1782, Value.str (Str.ofString "charset") 1783, Value.str (Str.ofString "figures") 1784, Value.str (Str.ofString "word") 1785, Value.str (Str.ofString "rank") 1786] }
noncomputable def ob68v0 (_ : Params) : Obj := { cls := Value.type "tuple", data := Data.seq #[] }
noncomputable def ob69v0 (_ : Params) : Obj := { cls := Value.none, data := Data.func { name := Str.ofString "_law_spelled", qualname := Str.ofString "_law_spelled", params := fnP 21, body := FuncBody.stmts (fnB 21), scope := fnS 21, globals := 0, closure := [], defaults := Value.none, kwdefaults := Value.none } }
noncomputable def ob70v0 (_ : Params) : Obj := { cls := Value.type "code", data := Data.fields #[Value.str (Str.ofString "_law_spelled") 1779, Value.str (Str.ofString "_law_spelled") 1780, Value.str (Str.ofString "/claim/cut.py") 1781, Value.int 56 0, Value.int 2 0, Value.int 0 0, Value.int 0 0, Value.int 3 0, Value.ref 65, Value.bool true, Value.int 181 0, Value.ref 66, Value.none, Value.ref 67, Value.ref 68, Value.ref 69, Value.int 1787 0, Value.int 56 0, Value.str (Str.ofString "/claim/cut.py") 1788] }
noncomputable def ob71v0 (_ : Params) : Obj := { cls := Value.type "function", data := Data.func { name := Str.ofString "_law_spelled", qualname := Str.ofString "_law_spelled", params := fnP 21, body := FuncBody.stmts (fnB 21), scope := fnS 21, globals := 3, closure := [], defaults := Value.none, kwdefaults := Value.none, pyModule := Value.str (Str.ofString "law_ny0026_01") 1755, code := Value.ref 70 } }
noncomputable def ob72v0 (_ : Params) : Obj := { cls := Value.type "tuple", data := Data.seq #[] }
noncomputable def ob73v0 (_ : Params) : Obj := { cls := Value.none, data := Data.fields #[] }
noncomputable def ob74v0 (_ : Params) : Obj := { cls := Value.type "tuple", data := Data.seq #[Value.str (Str.ofString "first") 1793, Value.str (Str.ofString "second") 1794, Value.str (Str.ofString "k") 1795] }
noncomputable def ob75v0 (_ : Params) : Obj := { cls := Value.type "tuple", data := Data.seq #[] }
noncomputable def ob76v0 (_ : Params) : Obj := { cls := Value.none, data := Data.func { name := Str.ofString "_law_above", qualname := Str.ofString "_law_above", params := fnP 22, body := FuncBody.stmts (fnB 22), scope := fnS 22, globals := 0, closure := [], defaults := Value.none, kwdefaults := Value.none } }
noncomputable def ob77v0 (_ : Params) : Obj := { cls := Value.type "code", data := Data.fields #[Value.str (Str.ofString "_law_above") 1790, Value.str (Str.ofString "_law_above") 1791, Value.str (Str.ofString "/claim/cut.py") 1792, Value.int 64 0, Value.int 2 0, Value.int 0 0, Value.int 0 0, Value.int 3 0, Value.ref 72, Value.bool true, Value.int 181 0, Value.ref 73, Value.none, Value.ref 74, Value.ref 75, Value.ref 76, Value.int 1796 0, Value.int 64 0, Value.str (Str.ofString "/claim/cut.py") 1797] }
noncomputable def ob78v0 (_ : Params) : Obj := { cls := Value.type "function", data := Data.func { name := Str.ofString "_law_above", qualname := Str.ofString "_law_above", params := fnP 22, body := FuncBody.stmts (fnB 22), scope := fnS 22, globals := 3, closure := [], defaults := Value.none, kwdefaults := Value.none, pyModule := Value.str (Str.ofString "law_ny0026_01") 1755, code := Value.ref 77 } }
noncomputable def ob79v0 (_ : Params) : Obj := { cls := Value.type "tuple", data := Data.seq #[] }
noncomputable def ob80v0 (_ : Params) : Obj := { cls := Value.none, data := Data.fields #[] }
noncomputable def ob81v0 (_ : Params) : Obj := { cls := Value.none, data := Data.func { name := Str.ofString "law", qualname := Str.ofString "law", params := fnP 23, body := FuncBody.stmts (fnB 23), scope := fnS 23, globals := 0, closure := [], defaults := Value.none, kwdefaults := Value.none } }
noncomputable def ob82v0 (_ : Params) : Obj := { cls := Value.type "code", data := Data.fields #[Value.str (Str.ofString "law") 1799, Value.str (Str.ofString "law") 1800, Value.str (Str.ofString "/claim/cut.py") 1801, Value.int 69 0, Value.int 1 0, Value.int 0 0, Value.int 0 0, Value.int 3 0, Value.ref 79, Value.bool true, Value.int 181 0, Value.ref 80, Value.none, Value.none, Value.none, Value.ref 81, Value.int 1802 0, Value.int 69 0, Value.str (Str.ofString "/claim/cut.py") 1803] }
noncomputable def ob83v0 (_ : Params) : Obj := { cls := Value.type "function", data := Data.func { name := Str.ofString "law", qualname := Str.ofString "law", params := fnP 23, body := FuncBody.stmts (fnB 23), scope := fnS 23, globals := 3, closure := [], defaults := Value.none, kwdefaults := Value.none, pyModule := Value.str (Str.ofString "law_ny0026_01") 1755, code := Value.ref 82 } }
noncomputable def trpre (P : Params) : BT := (.node (boot_o_0 P) (.node (boot_o_1 P) (.node (boot_o_3 P) (.node (boot_o_7 P) .nil .nil) (.node (ob11v0 P) .nil .nil)) (.node (boot_o_5 P) (.node (boot_o_9 P) .nil .nil) (.node (ob13v0 P) .nil .nil))) (.node (boot_o_2 P) (.node (boot_o_4 P) (.node (boot_o_8 P) .nil .nil) (.node (ob12v0 P) .nil .nil)) (.node (boot_o_6 P) (.node (boot_o_10 P) .nil .nil) (.node (ob14v0 P) .nil .nil))))
noncomputable def trA (P : Params) : BT := (.node (boot_o_0 P) (.node (boot_o_1 P) (.node (ob3v0 P) (.node (boot_o_7 P) (.node (ob15v0 P) .nil .nil) .nil) (.node (ob11v0 P) (.node (ob19v0 P) .nil .nil) .nil)) (.node (boot_o_5 P) (.node (boot_o_9 P) (.node (ob17v0 P) .nil .nil) .nil) (.node (ob13v0 P) (.node (ob21v0 P) .nil .nil) .nil))) (.node (boot_o_2 P) (.node (boot_o_4 P) (.node (boot_o_8 P) (.node (ob16v0 P) .nil .nil) .nil) (.node (ob12v1 P) (.node (ob20v0 P) .nil .nil) .nil)) (.node (boot_o_6 P) (.node (boot_o_10 P) (.node (ob18v0 P) .nil .nil) .nil) (.node (ob14v0 P) .nil .nil))))
noncomputable def trB (P : Params) : BT := (.node (boot_o_0 P) (.node (boot_o_1 P) (.node (ob3v1 P) (.node (boot_o_7 P) (.node (ob15v0 P) .nil .nil) (.node (ob23v0 P) .nil .nil)) (.node (ob11v0 P) (.node (ob19v0 P) .nil .nil) (.node (ob27v0 P) .nil .nil))) (.node (boot_o_5 P) (.node (boot_o_9 P) (.node (ob17v0 P) .nil .nil) (.node (ob25v0 P) .nil .nil)) (.node (ob13v0 P) (.node (ob21v0 P) .nil .nil) .nil))) (.node (boot_o_2 P) (.node (boot_o_4 P) (.node (boot_o_8 P) (.node (ob16v0 P) .nil .nil) (.node (ob24v0 P) .nil .nil)) (.node (ob12v1 P) (.node (ob20v0 P) .nil .nil) .nil)) (.node (boot_o_6 P) (.node (boot_o_10 P) (.node (ob18v0 P) .nil .nil) (.node (ob26v0 P) .nil .nil)) (.node (ob14v0 P) (.node (ob22v0 P) .nil .nil) .nil))))
noncomputable def trC (P : Params) : BT := (.node (boot_o_0 P) (.node (boot_o_1 P) (.node (ob3v2 P) (.node (boot_o_7 P) (.node (ob15v0 P) (.node (ob31v0 P) .nil .nil) .nil) (.node (ob23v0 P) .nil .nil)) (.node (ob11v0 P) (.node (ob19v0 P) .nil .nil) (.node (ob27v0 P) .nil .nil))) (.node (boot_o_5 P) (.node (boot_o_9 P) (.node (ob17v0 P) .nil .nil) (.node (ob25v0 P) .nil .nil)) (.node (ob13v0 P) (.node (ob21v0 P) .nil .nil) (.node (ob29v0 P) .nil .nil)))) (.node (boot_o_2 P) (.node (boot_o_4 P) (.node (boot_o_8 P) (.node (ob16v0 P) .nil .nil) (.node (ob24v0 P) .nil .nil)) (.node (ob12v1 P) (.node (ob20v0 P) .nil .nil) (.node (ob28v0 P) .nil .nil))) (.node (boot_o_6 P) (.node (boot_o_10 P) (.node (ob18v0 P) .nil .nil) (.node (ob26v0 P) .nil .nil)) (.node (ob14v0 P) (.node (ob22v0 P) .nil .nil) (.node (ob30v0 P) .nil .nil)))))
noncomputable def trD (P : Params) : BT := (.node (boot_o_0 P) (.node (boot_o_1 P) (.node (ob3v3 P) (.node (boot_o_7 P) (.node (ob15v0 P) (.node (ob31v0 P) .nil .nil) .nil) (.node (ob23v0 P) .nil .nil)) (.node (ob11v0 P) (.node (ob19v0 P) .nil .nil) (.node (ob27v0 P) .nil .nil))) (.node (boot_o_5 P) (.node (boot_o_9 P) (.node (ob17v0 P) (.node (ob33v0 P) .nil .nil) .nil) (.node (ob25v0 P) .nil .nil)) (.node (ob13v0 P) (.node (ob21v0 P) .nil .nil) (.node (ob29v1 P) .nil .nil)))) (.node (boot_o_2 P) (.node (boot_o_4 P) (.node (boot_o_8 P) (.node (ob16v0 P) (.node (ob32v0 P) .nil .nil) .nil) (.node (ob24v0 P) .nil .nil)) (.node (ob12v1 P) (.node (ob20v0 P) .nil .nil) (.node (ob28v0 P) .nil .nil))) (.node (boot_o_6 P) (.node (boot_o_10 P) (.node (ob18v0 P) (.node (ob34v0 P) .nil .nil) .nil) (.node (ob26v0 P) .nil .nil)) (.node (ob14v0 P) (.node (ob22v0 P) .nil .nil) (.node (ob30v0 P) .nil .nil)))))
noncomputable def trE (P : Params) : BT := (.node (boot_o_0 P) (.node (boot_o_1 P) (.node (ob3v3 P) (.node (boot_o_7 P) (.node (ob15v0 P) (.node (ob31v0 P) .nil .nil) .nil) (.node (ob23v0 P) .nil .nil)) (.node (ob11v0 P) (.node (ob19v0 P) .nil .nil) (.node (ob27v0 P) .nil .nil))) (.node (boot_o_5 P) (.node (boot_o_9 P) (.node (ob17v0 P) (.node (ob33v0 P) .nil .nil) .nil) (.node (ob25v0 P) .nil .nil)) (.node (ob13v0 P) (.node (ob21v0 P) .nil .nil) (.node (ob29v2 P) .nil .nil)))) (.node (boot_o_2 P) (.node (boot_o_4 P) (.node (boot_o_8 P) (.node (ob16v0 P) (.node (ob32v0 P) .nil .nil) .nil) (.node (ob24v0 P) .nil .nil)) (.node (ob12v1 P) (.node (ob20v0 P) .nil .nil) (.node (ob28v0 P) .nil .nil))) (.node (boot_o_6 P) (.node (boot_o_10 P) (.node (ob18v0 P) (.node (ob34v0 P) .nil .nil) .nil) (.node (ob26v0 P) .nil .nil)) (.node (ob14v0 P) (.node (ob22v0 P) .nil .nil) (.node (ob30v0 P) .nil .nil)))))
noncomputable def trF (P : Params) : BT := (.node (boot_o_0 P) (.node (boot_o_1 P) (.node (ob3v4 P) (.node (boot_o_7 P) (.node (ob15v0 P) (.node (ob31v1 P) .nil .nil) .nil) (.node (ob23v0 P) .nil .nil)) (.node (ob11v0 P) (.node (ob19v0 P) (.node (ob35v0 P) .nil .nil) .nil) (.node (ob27v0 P) .nil .nil))) (.node (boot_o_5 P) (.node (boot_o_9 P) (.node (ob17v0 P) (.node (ob33v0 P) .nil .nil) .nil) (.node (ob25v0 P) .nil .nil)) (.node (ob13v0 P) (.node (ob21v0 P) (.node (ob37v0 P) .nil .nil) .nil) (.node (ob29v2 P) .nil .nil)))) (.node (boot_o_2 P) (.node (boot_o_4 P) (.node (boot_o_8 P) (.node (ob16v0 P) (.node (ob32v0 P) .nil .nil) .nil) (.node (ob24v0 P) .nil .nil)) (.node (ob12v1 P) (.node (ob20v0 P) (.node (ob36v0 P) .nil .nil) .nil) (.node (ob28v0 P) .nil .nil))) (.node (boot_o_6 P) (.node (boot_o_10 P) (.node (ob18v0 P) (.node (ob34v0 P) .nil .nil) .nil) (.node (ob26v0 P) .nil .nil)) (.node (ob14v0 P) (.node (ob22v0 P) .nil .nil) (.node (ob30v0 P) .nil .nil)))))
noncomputable def trG (P : Params) : BT := (.node (boot_o_0 P) (.node (boot_o_1 P) (.node (ob3v5 P) (.node (boot_o_7 P) (.node (ob15v0 P) (.node (ob31v1 P) (.node (ob63v0 P) .nil .nil) .nil) (.node (ob47v0 P) (.node (ob79v0 P) .nil .nil) .nil)) (.node (ob23v0 P) (.node (ob39v0 P) (.node (ob71v0 P) .nil .nil) .nil) (.node (ob55v0 P) .nil .nil))) (.node (ob11v0 P) (.node (ob19v0 P) (.node (ob35v0 P) (.node (ob67v0 P) .nil .nil) .nil) (.node (ob51v0 P) (.node (ob83v0 P) .nil .nil) .nil)) (.node (ob27v0 P) (.node (ob43v0 P) (.node (ob75v0 P) .nil .nil) .nil) (.node (ob59v0 P) .nil .nil)))) (.node (boot_o_5 P) (.node (boot_o_9 P) (.node (ob17v0 P) (.node (ob33v0 P) (.node (ob65v0 P) .nil .nil) .nil) (.node (ob49v0 P) (.node (ob81v0 P) .nil .nil) .nil)) (.node (ob25v0 P) (.node (ob41v0 P) (.node (ob73v0 P) .nil .nil) .nil) (.node (ob57v0 P) .nil .nil))) (.node (ob13v0 P) (.node (ob21v0 P) (.node (ob37v0 P) (.node (ob69v0 P) .nil .nil) .nil) (.node (ob53v0 P) .nil .nil)) (.node (ob29v2 P) (.node (ob45v0 P) (.node (ob77v0 P) .nil .nil) .nil) (.node (ob61v0 P) .nil .nil))))) (.node (boot_o_2 P) (.node (boot_o_4 P) (.node (boot_o_8 P) (.node (ob16v0 P) (.node (ob32v0 P) (.node (ob64v0 P) .nil .nil) .nil) (.node (ob48v0 P) (.node (ob80v0 P) .nil .nil) .nil)) (.node (ob24v0 P) (.node (ob40v0 P) (.node (ob72v0 P) .nil .nil) .nil) (.node (ob56v0 P) .nil .nil))) (.node (ob12v2 P) (.node (ob20v0 P) (.node (ob36v0 P) (.node (ob68v0 P) .nil .nil) .nil) (.node (ob52v0 P) .nil .nil)) (.node (ob28v0 P) (.node (ob44v0 P) (.node (ob76v0 P) .nil .nil) .nil) (.node (ob60v0 P) .nil .nil)))) (.node (boot_o_6 P) (.node (boot_o_10 P) (.node (ob18v0 P) (.node (ob34v0 P) (.node (ob66v0 P) .nil .nil) .nil) (.node (ob50v0 P) (.node (ob82v0 P) .nil .nil) .nil)) (.node (ob26v0 P) (.node (ob42v0 P) (.node (ob74v0 P) .nil .nil) .nil) (.node (ob58v0 P) .nil .nil))) (.node (ob14v0 P) (.node (ob22v0 P) (.node (ob38v0 P) (.node (ob70v0 P) .nil .nil) .nil) (.node (ob54v0 P) .nil .nil)) (.node (ob30v0 P) (.node (ob46v0 P) (.node (ob78v0 P) .nil .nil) .nil) (.node (ob62v0 P) .nil .nil))))))
noncomputable def tr26 (P : Params) (a b c d : Obj) : BT := (.node (boot_o_0 P) (.node (boot_o_1 P) (.node (ob3v0 P) (.node (boot_o_7 P) (.node (ob15v0 P) .nil .nil) (.node b .nil .nil)) (.node (ob11v0 P) (.node (ob19v0 P) .nil .nil) .nil)) (.node (boot_o_5 P) (.node (boot_o_9 P) (.node (ob17v0 P) .nil .nil) (.node d .nil .nil)) (.node (ob13v0 P) (.node (ob21v0 P) .nil .nil) .nil))) (.node (boot_o_2 P) (.node (boot_o_4 P) (.node (boot_o_8 P) (.node (ob16v0 P) .nil .nil) (.node c .nil .nil)) (.node (ob12v1 P) (.node (ob20v0 P) .nil .nil) .nil)) (.node (boot_o_6 P) (.node (boot_o_10 P) (.node (ob18v0 P) .nil .nil) .nil) (.node (ob14v0 P) (.node a .nil .nil) .nil))))
noncomputable def tr33 (P : Params) (g l it : Obj) : BT := (.node (boot_o_0 P) (.node (boot_o_1 P) (.node g (.node (boot_o_7 P) (.node (ob15v0 P) (.node (ob31v0 P) .nil .nil) .nil) (.node (ob23v0 P) .nil .nil)) (.node (ob11v0 P) (.node (ob19v0 P) .nil .nil) (.node (ob27v0 P) .nil .nil))) (.node (boot_o_5 P) (.node (boot_o_9 P) (.node (ob17v0 P) .nil .nil) (.node (ob25v0 P) .nil .nil)) (.node (ob13v0 P) (.node (ob21v0 P) .nil .nil) (.node l .nil .nil)))) (.node (boot_o_2 P) (.node (boot_o_4 P) (.node (boot_o_8 P) (.node (ob16v0 P) (.node it .nil .nil) .nil) (.node (ob24v0 P) .nil .nil)) (.node (ob12v1 P) (.node (ob20v0 P) .nil .nil) (.node (ob28v0 P) .nil .nil))) (.node (boot_o_6 P) (.node (boot_o_10 P) (.node (ob18v0 P) .nil .nil) (.node (ob26v0 P) .nil .nil)) (.node (ob14v0 P) (.node (ob22v0 P) .nil .nil) (.node (ob30v0 P) .nil .nil)))))
noncomputable def tr36 (P : Params) (g l it : Obj) : BT := (.node (boot_o_0 P) (.node (boot_o_1 P) (.node g (.node (boot_o_7 P) (.node (ob15v0 P) (.node l .nil .nil) .nil) (.node (ob23v0 P) .nil .nil)) (.node (ob11v0 P) (.node (ob19v0 P) (.node it .nil .nil) .nil) (.node (ob27v0 P) .nil .nil))) (.node (boot_o_5 P) (.node (boot_o_9 P) (.node (ob17v0 P) (.node (ob33v0 P) .nil .nil) .nil) (.node (ob25v0 P) .nil .nil)) (.node (ob13v0 P) (.node (ob21v0 P) .nil .nil) (.node (ob29v2 P) .nil .nil)))) (.node (boot_o_2 P) (.node (boot_o_4 P) (.node (boot_o_8 P) (.node (ob16v0 P) (.node (ob32v0 P) .nil .nil) .nil) (.node (ob24v0 P) .nil .nil)) (.node (ob12v1 P) (.node (ob20v0 P) .nil .nil) (.node (ob28v0 P) .nil .nil))) (.node (boot_o_6 P) (.node (boot_o_10 P) (.node (ob18v0 P) (.node (ob34v0 P) .nil .nil) .nil) (.node (ob26v0 P) .nil .nil)) (.node (ob14v0 P) (.node (ob22v0 P) .nil .nil) (.node (ob30v0 P) .nil .nil)))))
def g19 (P : Params) (v : Int) (t : Tok) : Obj := { cls := Value.type "dict", data := Data.dict #[{ hash := PyData.keyHash P (Str.ofString "__name__"), key := Value.str (Str.ofString "__name__") 165, val := Value.str (Str.ofString "cpy313.email.quoprimime") 1238 }, { hash := PyData.keyHash P (Str.ofString "__doc__"), key := Value.str (Str.ofString "__doc__") 166, val := Value.none }, { hash := PyData.keyHash P (Str.ofString "__package__"), key := Value.str (Str.ofString "__package__") 167, val := Value.none }, { hash := PyData.keyHash P (Str.ofString "__loader__"), key := Value.str (Str.ofString "__loader__") 168, val := Value.builtin "__main__.__loader__#opaque" }, { hash := PyData.keyHash P (Str.ofString "__spec__"), key := Value.str (Str.ofString "__spec__") 169, val := Value.none }, { hash := PyData.keyHash P (Str.ofString "__annotations__"), key := Value.str (Str.ofString "__annotations__") 170, val := Value.ref 6 }, { hash := PyData.keyHash P (Str.ofString "__builtins__"), key := Value.str (Str.ofString "__builtins__") 171, val := Value.ref 4 }, { hash := PyData.keyHash P (Str.ofString "__file__"), key := Value.str (Str.ofString "__file__") 173, val := Value.str (Str.ofString "/claim/cut.py") 172 }, { hash := PyData.keyHash P (Str.ofString "__cached__"), key := Value.str (Str.ofString "__cached__") 174, val := Value.none }, { hash := PyData.keyHash P (Str.ofString "_NO_LINENO"), key := Value.str (Str.ofString "_NO_LINENO") 190, val := Value.str (Str.ofString "  --") 189 }, { hash := PyData.keyHash P (Str.ofString "_get_lineno_width"), key := Value.str (Str.ofString "_get_lineno_width") 199, val := Value.ref 21 }, { hash := PyData.keyHash P (Str.ofString "_QUOPRI_MAP"), key := Value.str (Str.ofString "_QUOPRI_MAP") 1227, val := Value.ref 24 }, { hash := PyData.keyHash P (Str.ofString "_QUOPRI_HEADER_MAP"), key := Value.str (Str.ofString "_QUOPRI_HEADER_MAP") 1228, val := Value.ref 29 }, { hash := PyData.keyHash P (Str.ofString "_QUOPRI_BODY_MAP"), key := Value.str (Str.ofString "_QUOPRI_BODY_MAP") 1229, val := Value.ref 31 }, { hash := PyData.keyHash P (Str.ofString "ascii_lowercase"), key := Value.str (Str.ofString "ascii_lowercase") 1231, val := Value.str (Str.ofString "abcdefghijklmnopqrstuvwxyz") 1230 }, { hash := PyData.keyHash P (Str.ofString "ascii_uppercase"), key := Value.str (Str.ofString "ascii_uppercase") 1233, val := Value.str (Str.ofString "ABCDEFGHIJKLMNOPQRSTUVWXYZ") 1232 }, { hash := PyData.keyHash P (Str.ofString "ascii_letters"), key := Value.str (Str.ofString "ascii_letters") 1235, val := Value.str (Str.ofString "abcdefghijklmnopqrstuvwxyzABCDEFGHIJKLMNOPQRSTUVWXYZ") 1234 }, { hash := PyData.keyHash P (Str.ofString "digits"), key := Value.str (Str.ofString "digits") 1237, val := Value.str (Str.ofString "0123456789") 1236 }, { hash := PyData.keyHash P (Str.ofString "c"), key := Value.str (Str.ofString "c") 1248, val := Value.int v t }] 19 }
def by1 : Array UInt8 := #[45, 33, 42, 43, 47, 97, 98, 99, 100, 101, 102, 103, 104, 105, 106, 107, 108, 109, 110, 111, 112, 113, 114, 115, 116, 117, 118, 119, 120, 121, 122, 65, 66, 67, 68, 69, 70, 71, 72, 73, 74, 75, 76, 77, 78, 79, 80, 81, 82, 83, 84, 85, 86, 87, 88, 89, 90, 48, 49, 50, 51, 52, 53, 54, 55, 56, 57]
def by2 : Array UInt8 := #[32, 33, 34, 35, 36, 37, 38, 39, 40, 41, 42, 43, 44, 45, 46, 47, 48, 49, 50, 51, 52, 53, 54, 55, 56, 57, 58, 59, 60, 62, 63, 64, 65, 66, 67, 68, 69, 70, 71, 72, 73, 74, 75, 76, 77, 78, 79, 80, 81, 82, 83, 84, 85, 86, 87, 88, 89, 90, 91, 92, 93, 94, 95, 96, 97, 98, 99, 100, 101, 102, 103, 104, 105, 106, 107, 108, 109, 110, 111, 112, 113, 114, 115, 116, 117, 118, 119, 120, 121, 122, 123, 124, 125, 126, 9]
def bn1 : List Nat := [45, 33, 42, 43, 47, 97, 98, 99, 100, 101, 102, 103, 104, 105, 106, 107, 108, 109, 110, 111, 112, 113, 114, 115, 116, 117, 118, 119, 120, 121, 122, 65, 66, 67, 68, 69, 70, 71, 72, 73, 74, 75, 76, 77, 78, 79, 80, 81, 82, 83, 84, 85, 86, 87, 88, 89, 90, 48, 49, 50, 51, 52, 53, 54, 55, 56, 57]
def bn2 : List Nat := [32, 33, 34, 35, 36, 37, 38, 39, 40, 41, 42, 43, 44, 45, 46, 47, 48, 49, 50, 51, 52, 53, 54, 55, 56, 57, 58, 59, 60, 62, 63, 64, 65, 66, 67, 68, 69, 70, 71, 72, 73, 74, 75, 76, 77, 78, 79, 80, 81, 82, 83, 84, 85, 86, 87, 88, 89, 90, 91, 92, 93, 94, 95, 96, 97, 98, 99, 100, 101, 102, 103, 104, 105, 106, 107, 108, 109, 110, 111, 112, 113, 114, 115, 116, 117, 118, 119, 120, 121, 122, 123, 124, 125, 126, 9]
noncomputable def kfrag (P : Params) : Frag := [(2, boot_o_2 P), (3, ob3v5 P), (6, boot_o_6 P), (15, ob15v0 P), (17, ob17v0 P), (18, ob18v0 P), (20, ob20v0 P), (21, ob21v0 P), (24, ob24v0 P), (29, ob29v2 P), (31, ob31v1 P), (38, ob38v0 P), (39, ob39v0 P), (41, ob41v0 P), (42, ob42v0 P), (44, ob44v0 P), (45, ob45v0 P), (47, ob47v0 P), (51, ob51v0 P), (53, ob53v0 P), (54, ob54v0 P), (56, ob56v0 P), (57, ob57v0 P), (58, ob58v0 P), (60, ob60v0 P), (61, ob61v0 P), (63, ob63v0 P), (64, ob64v0 P), (65, ob65v0 P), (67, ob67v0 P), (68, ob68v0 P), (70, ob70v0 P), (71, ob71v0 P), (72, ob72v0 P), (74, ob74v0 P), (75, ob75v0 P), (77, ob77v0 P), (78, ob78v0 P), (79, ob79v0 P), (82, ob82v0 P), (83, ob83v0 P)]
end Mine
end
section
open PySem PySem.W PyProof.Rows PySem.Calls
set_option maxRecDepth 100000
namespace Mine
noncomputable abbrev KF (w : World) : Frag := kfrag w.params
noncomputable abbrev PR : Program := PySem.Challenge.rw_ny0026_01.row.prog
/-- what every heap of the call knows of the text's top -/
structure Cx (w : World) (mg mb : Str → Option Value) (h : Heap) : Prop where
  X : (KF w).In h
  g : h.Ns mainGlobals mg
  b : h.Ns builtinsNs mb
  nolimit : h.NoLimit
  builtins : ∀ x : Str, x ≠ "__name__" → mb x = bootBuiltins x
theorem Cx.keeps {w : World} {mg mb : Str → Option Value} {h h' : Heap} (C : Cx w mg mb h) (k : ∀ b o, h.get? b = some o → h'.get? b = some o) : Cx w mg mb h' :=
  ⟨C.X.keeps k, C.g.keeps k, C.b.keeps k, C.nolimit.keeps k, C.builtins⟩
/-- room around a call -/
structure Rm (n : Nat) (A : Around) : Prop where
  hh : A.handled = none
  d : A.depth + n < recursionLimit
  u : A.units + 3 * n < cLine
theorem Rm.deeper {n : Nat} {A : Around} (R : Rm (n + 1) A) (env : Env) : Rm n (A.deeper env) := by
  refine ⟨R.hh, ?_, ?_⟩
  · have := R.d; show A.depth + 1 + n < _; omega
  · have := R.u; show A.units + 3 + 3 * n < _; omega
theorem Rm.in1 {n : Nat} {A : Around} (R : Rm (n + 1) A) : Rm n A.in1 := by
  refine ⟨R.hh, ?_, ?_⟩
  · have := R.d; show A.depth + n < _; omega
  · have := R.u; show A.units + 1 + 3 * n < _; omega
theorem Rm.le {n m : Nat} {A : Around} (R : Rm n A) (h : m ≤ n) : Rm m A :=
  ⟨R.hh, Nat.lt_of_le_of_lt (Nat.add_le_add_left h _) R.d, by have := R.u; omega⟩

section
variable {w : World} {mg mb : Str → Option Value} {A : Around} {s : Shared} {E : Value → Shared → Prop} {Q : Value → Shared → Prop}
/-- a call of a def of the text -/
theorem call_own {n : Nat} {f : Addr} {args : List Value} {name : Str} {params : Arguments} {body : List Stmt} {scope : Scope} {pm cd doc oc : Value} {od : Option Addr} {osl : Array (Option Value)}
    (C : Cx w mg mb s.heap) (R : Rm (n + 1) A) (ho : (KF w).lookup f = some ⟨oc, od, .func (docDef name params body scope pm cd doc), osl⟩) (hcd : codeIn (KF w) cd name = true)
    (hbind : bindArgs (docDef name params body scope pm cd doc) ⟨args, []⟩ = pure ((params.args.map (·.arg)).zip args))
    (hloc : (((params.args.map (·.arg)).zip args).all fun x => decide (scope.names.lookup x.1 = some .local)) = true)
    (hco : scope.isCoroutine = false) (hgen : scope.isGenerator = false) (hk : scope.kind = .function)
    (hcell : ∀ x ∈ scope.names, x.2 ≠ .cell)
    (h : ∀ h₁ tk, Fr s.heap s.heap.objs.size h₁ (fun x => ((params.args.map (·.arg)).zip args).reverse.lookup x) → Rm n (A.deeper (envOf name scope s.heap.objs.size f cd)) →
      wpAny (model PR w) (A.deeper (envOf name scope s.heap.objs.size f cd)) (execs body (envOf name scope s.heap.objs.size f cd))
        (fun f s' => Q (match f with | .ret v => v | _ => .none) s') (fun _ _ => False) { s with heap := h₁, toks := tk }) :
    wpAny (model PR w) A (call (.ref f) args) Q E s :=
  wpAny_call (call_pos_ret (Nat.lt_of_le_of_lt (Nat.le_add_right _ _) R.d) (C.X f _ ho) rfl C.nolimit (codeRec_of C.X hcd) hbind (locs hloc) (fun h₁ F => h h₁ _ F (R.deeper _)) hco hgen hk hcell)
end
end Mine
end
section
open PySem PySem.W PyProof.Rows PySem.Calls
set_option maxRecDepth 100000
namespace Mine
abbrev NE : Value → Shared → Prop := fun _ _ => False
/-- the builtins that the text names -/
def bTab : List (Str × Value) := [("len", .builtin "len"), ("min", .builtin "min"), ("max", .builtin "max"), ("range", .type "range"), ("filter", .type "filter"), ("str", .type "str"), ("sum", .builtin "sum"), ("bytes", .type "bytes"), ("chr", .builtin "chr")]
theorem bTab_boot : ∀ p ∈ bTab, bootBuiltins p.1 = some p.2 := by
  intro p hp
  simp only [bTab, List.mem_cons, List.not_mem_nil, or_false] at hp
  rcases hp with h | h | h | h | h | h | h | h | h <;> rw [h] <;> rfl
theorem bTab_ns (w : World) : ∀ p ∈ bTab, nsIn (KF w) mainGlobals p.1 = some none := by
  intro p hp
  simp only [bTab, List.mem_cons, List.not_mem_nil, or_false] at hp
  rcases hp with h | h | h | h | h | h | h | h | h <;> rw [h] <;> rfl
theorem bTab_name : ∀ p ∈ bTab, p.1 ≠ "__name__" := by decide
theorem bTab_at {x : Str} {v : Value} : ∀ {l : List (Str × Value)}, l.lookup x = some v → (x, v) ∈ l
  | [], h => by cases h
  | (y, u) :: r, h => by
    rw [List.lookup_cons] at h
    cases hb : x == y with
    | true =>
      rw [hb] at h
      simp only [Option.some.injEq] at h
      rw [eq_of_beq hb, h]; exact .head _
    | false => rw [hb] at h; exact .tail _ (bTab_at h)
section
variable {w : World} {mg mb : Str → Option Value} {A : Around} {s : Shared} {E : Value → Shared → Prop} {Q : Value → Shared → Prop}
  {h₀ : Heap} {L a : Addr} {m : Str → Option Value} {cn : Str} {cs : Scope} {ccd : Value} {cl : List (Str × Addr)} {x : Str} {pos : Pos} {v : Value}
theorem nmK (F : Fr h₀ L s.heap m) (C : Cx w mg mb h₀) (e : nsIn (KF w) mainGlobals x = some (some v)) (h : Q v s)
    (hk : cs.kind = .function := by rfl) (hx : (envX cn cs L a ccd cl).kindOf x = some .globalImplicit := by rfl) (hd : (x == ("__debug__" : Str)) = false := by decide) :
    wpAny (model PR w) A (eval (.Name x pos) (envX cn cs L a ccd cl)) Q E s := Name_function_global hk hx (loadGlobal_global (env := envX cn cs L a ccd cl) (C.g.keeps F.keep) (mg_of C.X C.g e) h) hd
theorem nmB (F : Fr h₀ L s.heap m) (C : Cx w mg mb h₀) (e : bTab.lookup x = some v) (_hv : x = x) (h : Q v s)
    (hk : cs.kind = .function := by rfl) (hx : (envX cn cs L a ccd cl).kindOf x = some .globalImplicit := by rfl) (hd : (x == ("__debug__" : Str)) = false := by decide) :
    wpAny (model PR w) A (eval (.Name x pos) (envX cn cs L a ccd cl)) Q E s :=
  Name_function_global hk hx (loadGlobal_builtin (env := envX cn cs L a ccd cl) (C.g.keeps F.keep) (mg_none_of C.X C.g (bTab_ns w _ (bTab_at e))) (C.b.keeps F.keep) ((C.builtins x (bTab_name _ (bTab_at e))).trans (bTab_boot _ (bTab_at e))) h) hd
theorem nmL (F : Fr h₀ L s.heap m) (hv : m x = some v) (h : Q v s)
    (hk : cs.kind = .function := by rfl) (hx : (envX cn cs L a ccd cl).kindOf x = some .local := by rfl) (hd : (x == ("__debug__" : Str)) = false := by decide) :
    wpAny (model PR w) A (eval (.Name x pos) (envX cn cs L a ccd cl)) Q E s := wpAny_Name (wpAny_loadName_local hk hx F.ns hv h) hd
end
section
variable {w : World} {A : Around} {s : Shared} {E : Value → Shared → Prop} {Q : Value → Shared → Prop} {env : Env} {x : Str} {np pos : Pos} {e e' : Expr} {id : String}
theorem cB1 (h : wpAny (model PR w) A (eval (.Name x np) env) (fun f s₁ => f = .builtin id ∧ wpAny (model PR w) A (eval e env) (fun v s₂ => wpAny (model PR w) A (call (.builtin id) [v]) Q E s₂) E s₁) E s)
    (hs : starEach [e] env = [(false, eval e env)] := by rfl) :
    wpAny (model PR w) A (eval (.Call (.Name x np) [e] [] pos) env) Q E s := by
  show wpAny (model PR w) A (do callWith pos (← eval (.Name x np) env) [] (backTo pos (starEach [e] env)) (backToKw pos (keywordEach [] env))) Q E s
  rw [hs]
  refine wpAny_bind (wpAny_mono h ?_ fun _ _ x => x)
  rintro f s₁ ⟨rfl, h₁⟩
  exact Calls.callWith_builtin rfl (Calls.evalArgs_plain (Calls.spliced_cons (wpAny_mono h₁ (fun _ _ h₁ => Calls.spliced_nil h₁) fun _ _ e => e)))
theorem cB2 (h : wpAny (model PR w) A (eval (.Name x np) env) (fun f s₁ => f = .builtin id ∧ wpAny (model PR w) A (eval e env) (fun v s₂ => wpAny (model PR w) A (eval e' env) (fun v' s₃ => wpAny (model PR w) A (call (.builtin id) [v, v']) Q E s₃) E s₂) E s₁) E s)
    (hs : starEach [e, e'] env = [(false, eval e env), (false, eval e' env)] := by rfl) :
    wpAny (model PR w) A (eval (.Call (.Name x np) [e, e'] [] pos) env) Q E s := by
  show wpAny (model PR w) A (do callWith pos (← eval (.Name x np) env) [] (backTo pos (starEach [e, e'] env)) (backToKw pos (keywordEach [] env))) Q E s
  rw [hs]
  refine wpAny_bind (wpAny_mono h ?_ fun _ _ x => x)
  rintro f s₁ ⟨rfl, h₁⟩
  exact Calls.callWith_builtin rfl (Calls.evalArgs_plain (Calls.spliced_cons (wpAny_mono h₁ (fun _ _ h₁ => Calls.spliced_cons (wpAny_mono h₁ (fun _ _ h₂ => Calls.spliced_nil h₂) fun _ _ e => e)) fun _ _ e => e)))
theorem cT1 (h : wpAny (model PR w) A (eval (.Name x np) env) (fun f s₁ => f = .type id ∧ wpAny (model PR w) A (eval e env) (fun v s₂ => wpAny (model PR w) A (call (.type id) [v]) Q E s₂) E s₁) E s)
    (hs : starEach [e] env = [(false, eval e env)] := by rfl) :
    wpAny (model PR w) A (eval (.Call (.Name x np) [e] [] pos) env) Q E s := by
  show wpAny (model PR w) A (do callWith pos (← eval (.Name x np) env) [] (backTo pos (starEach [e] env)) (backToKw pos (keywordEach [] env))) Q E s
  rw [hs]
  refine wpAny_bind (wpAny_mono h ?_ fun _ _ x => x)
  rintro f s₁ ⟨rfl, h₁⟩
  exact PySem.callWith_type rfl (Calls.evalArgs_plain (Calls.spliced_cons (wpAny_mono h₁ (fun _ _ h₁ => Calls.spliced_nil h₁) fun _ _ e => e)))
end
section
variable {w : World} {A : Around} {s : Shared} {Q : Flow → Shared → Prop} {env : Env} {x : Str} {body : List Stmt} {h₀ : Heap} {m : Str → Option Value} {news : List (Addr × Obj)}
/-- what a turn of a loop must leave -/
def Turn (s : Shared) (h₀ : Heap) (L : Addr) (I : Addr) (own : List (Addr × Obj)) (J : (Str → Option Value) → List (Addr × Obj) → Prop) (Q : Flow → Shared → Prop) (f : Flow) (s' : Shared) : Prop :=
  match f with
  | .ret v => Q (.ret v) s'
  | .brk => Q .next s'
  | _ => ∃ h' tk m₂ news₂, s' = { s with heap := h', toks := tk } ∧ Fr h₀ L h' m₂ ∧ News h₀ L h' (own ++ news₂) ∧ (∀ p ∈ news₂, p.1 ≠ I) ∧ J m₂ news₂
theorem Turn.step {s s₁ : Shared} {L I : Addr} {own : List (Addr × Obj)} {J : (Str → Option Value) → List (Addr × Obj) → Prop} {f : Flow} {s' : Shared} (e : ∃ h tk, s₁ = { s with heap := h, toks := tk })
    (h : Turn s h₀ L I own J Q f s') : LoopStepV h₀ L [I] own J s₁ (fun v s' => Q (.ret v) s') (fun s' => Q .next s') f s' := by
  obtain ⟨h1, tk1, rfl⟩ := e
  cases f with
  | ret v => exact h
  | brk => exact h
  | next => obtain ⟨h', tk, m₂, n₂, rfl, F, N, ha, j⟩ := h; exact ⟨rfl, h', tk, m₂, n₂, rfl, F, N, (fun p hp hm => ha p hp (List.mem_singleton.mp hm)), j⟩
  | cont => obtain ⟨h', tk, m₂, n₂, rfl, F, N, ha, j⟩ := h; exact ⟨rfl, h', tk, m₂, n₂, rfl, F, N, (fun p hp hm => ha p hp (List.mem_singleton.mp hm)), j⟩
theorem loop_list {l : Addr} {vs : List Value} (J : Nat → (Str → Option Value) → List (Addr × Obj) → Prop) (hh : A.handled = none) (hl : s.heap.IsList l vs.toArray) (hlL : l ≠ env.locals)
    (F : Fr h₀ env.locals s.heap m) (N : News h₀ env.locals s.heap news) (j0 : J 0 m news)
    (turn : ∀ I i v m₁ news₁ h tk own, vs[i]? = some v → J i m₁ news₁ → (∀ p ∈ news₁, p.1 ≠ I) → (∃ o, (I, o) ∈ own) → (∀ p ∈ own, p.1 = I ∨ p.1 = l) → Fr h₀ env.locals h (fun y => if y = x then some v else m₁ y) → News h₀ env.locals h (own ++ news₁) →
      wpAny (model PR w) A (execs body env) (Turn s h₀ env.locals I own (J (i + 1)) Q) NE { s with heap := h, toks := tk })
    (done : ∀ h' tk m' news', Fr h₀ env.locals h' m' → News h₀ env.locals h' news' → J vs.length m' news' → Q .next { s with heap := h', toks := tk }) :
    wpAny (model PR w) A (pyIter (.ref l)) (fun it s₂ => LoopAtV PR w A h₀ env x body Q NE it s₂) NE s := by
  obtain ⟨ol, hol, _⟩ := id hl
  have hne : l ≠ s.heap.objs.size := Nat.ne_of_lt (Heap.lt_size hol)
  have hnew : h₀.get? s.heap.objs.size = none := next_is_new F
  refine wpAny_pyIter_list hl ?_
  have W := Walks.list (prog := PR) (w := w) hh s.heap.objs.size l hne vs.toArray
  have hlen : vs.toArray.size = vs.length := by simp
  rw [hlen] at W
  refine ⟨_, _, _, vs.length, _, _, m, news, J, rfl, W, ?_, ?_, ?_, ⟨⟨_, Heap.get?_push_size _ rfl, rfl, rfl⟩, hl.at fun o e => Heap.get?_push_of_some _ e⟩, F.push _, (fun p hp => ⟨Heap.get?_push_of_some _ (N p hp).1, (N p hp).2⟩), j0, ?_, ?_⟩
  · intro hm
    rcases List.mem_cons.mp hm with e | hm
    · exact absurd F.ns.lt (e ▸ Nat.lt_irrefl _)
    · exact hlL (List.mem_singleton.mp hm).symm
  · intro b hb
    rw [List.mem_singleton.mp hb]; exact hnew
  · intro p hp hI
    exact absurd (Heap.lt_size (N p hp).1) ((List.mem_singleton.mp hI) ▸ Nat.lt_irrefl _)
  · rintro i v m₁ news₁ s₁ own ⟨h1, tk1, rfl⟩ hin hP hJ hoff hsub hown hall hSt F₁ N₁
    have hPv : vs[i]? = some v := by simpa using hP
    obtain ⟨⟨oI, hoI, _⟩, _⟩ := hSt
    refine wpAny_mono (turn s.heap.objs.size i v m₁ news₁ h1 tk1 own hPv hJ (fun p hp => fun e => hoff p hp (by simp [e])) ⟨oI, hall _ (by simp) hnew oI hoI⟩ (fun p hp => by simpa using hsub p hp) F₁ N₁) (fun f s' t => Turn.step ⟨h1, tk1, rfl⟩ t) fun _ _ e => e
  · intro h' tk m' news' F' N' _ j
    exact done h' tk m' news' F' N' j
theorem loop_range {n : Int} {t : Tok} (J : Nat → (Str → Option Value) → List (Addr × Obj) → Prop) (hh : A.handled = none) (hn : n < 2 ^ 62) (hn' : 0 ≤ n)
    (F : Fr h₀ env.locals s.heap m) (N : News h₀ env.locals s.heap news) (j0 : J 0 m news)
    (turn : ∀ I (i : Nat) u m₁ news₁ h tk own, (i : Int) < n → J i m₁ news₁ → (∀ p ∈ news₁, p.1 ≠ I) → (∃ o, (I, o) ∈ own) → (∀ p ∈ own, p.1 = I) → Fr h₀ env.locals h (fun y => if y = x then some (.int i u) else m₁ y) → News h₀ env.locals h (own ++ news₁) →
      wpAny (model PR w) A (execs body env) (Turn s h₀ env.locals I own (J (i + 1)) Q) NE { s with heap := h, toks := tk })
    (done : ∀ h' tk m' news', Fr h₀ env.locals h' m' → News h₀ env.locals h' news' → J n.toNat m' news' → Q .next { s with heap := h', toks := tk }) :
    wpAny (model PR w) A (call (.type "range") [.int n t]) (fun xv s₁ => wpAny (model PR w) A (pyIter xv) (fun it s₂ => LoopAtV PR w A h₀ env x body Q NE it s₂) NE s₁) NE s := by
  refine call_range_1 ?_
  refine wpAny_pyIter_range (IsRange.new ..) (small_one (by decide) (by decide) (by omega) hn) ?_
  have hsz : Builtin.Range.rangeSize 0 n 1 = (n.toNat : Int) := by rw [rangeSize_one]; split <;> omega
  have F' := (F.push { cls := .type "range", data := .fields #[.int 0 s.toks, .int n t, .int 1 (s.toks + 1)] })
  have N' : News h₀ env.locals (s.heap.push { cls := .type "range", data := .fields #[.int 0 s.toks, .int n t, .int 1 (s.toks + 1)] }) news := fun p hp => ⟨Heap.get?_push_of_some _ (N p hp).1, (N p hp).2⟩
  generalize hs2 : (s.heap.push { cls := .type "range", data := .fields #[.int 0 s.toks, .int n t, .int 1 (s.toks + 1)] }) = H at F' N' ⊢
  have hnew : h₀.get? H.objs.size = none := next_is_new F'
  have W := Walks.range (prog := PR) (w := w) hh H.objs.size 0 1 n.toNat
  refine ⟨_, _, _, n.toNat, _, _, m, news, J, rfl, W, ?_, ?_, ?_, ?_, F'.push _, (fun p hp => ⟨Heap.get?_push_of_some _ (N' p hp).1, (N' p hp).2⟩), j0, ?_, ?_⟩
  · intro hm
    exact absurd F'.ns.lt (List.mem_singleton.mp hm ▸ Nat.lt_irrefl _)
  · intro b hb
    rw [List.mem_singleton.mp hb]; exact hnew
  · intro p hp hI
    exact absurd (Heap.lt_size (N' p hp).1) ((List.mem_singleton.mp hI) ▸ Nat.lt_irrefl _)
  · have e1 : (0 + ((0 : Nat) : Int) * 1) = 0 := by simp
    have e2 : ((n.toNat : Int) - ((0 : Nat) : Int)) = Builtin.Range.rangeSize 0 n 1 := by rw [hsz]; simp
    rw [e1, e2]
    exact Heap.get?_push_size _ rfl
  · rintro i v m₁ news₁ s₁ own ⟨h1, tk1, rfl⟩ hin hP hJ hoff hsub hown hall hSt F₁ N₁
    obtain ⟨u, rfl⟩ := hP
    have e1 : (0 + (i : Int) * 1) = i := by simp
    rw [e1] at F₁
    refine wpAny_mono (turn H.objs.size i u m₁ news₁ h1 tk1 own (by omega) hJ (fun p hp => fun e => hoff p hp (by simp [e])) ⟨_, hall _ (by simp) hnew _ hSt⟩ (fun p hp => by simpa using hsub p hp) F₁ N₁) (fun f s' t => Turn.step ⟨h1, tk1, rfl⟩ t) fun _ _ e => e
  · intro h' tk m' news' F' N' _ j
    exact done h' tk m' news' F' N' j
end
end Mine
end
section
open PySem PySem.W PyProof.Rows PySem.Calls
set_option maxRecDepth 100000
set_option maxHeartbeats 400000
namespace Mine
def above : List Int → List Int → Bool
  | [], _ => false
  | _ :: _, [] => true
  | x :: xs, y :: ys => if x = y then above xs ys else decide (y < x)
theorem above_at : ∀ (i : Nat) (xs ys : List Int) (a b : Int), xs.take i = ys.take i → xs[i]? = some a → ys[i]? = some b → a ≠ b → above xs ys = decide (b < a)
  | 0, x :: xs, y :: ys, a, b, _, ha, hb, hn => by
    simp at ha hb; subst ha; subst hb; simp [above, hn]
  | i + 1, x :: xs, y :: ys, a, b, h, ha, hb, hn => by
    simp at h ha hb
    simp only [above, h.1, if_true]
    exact above_at i xs ys a b h.2 ha hb hn
  | _, [], _, _, _, _, ha, _, _ => by simp at ha
  | _, _ :: _, [], _, _, _, _, hb, _ => by simp at hb
theorem above_end : ∀ (xs ys : List Int), xs.take (min xs.length ys.length) = ys.take (min xs.length ys.length) → above xs ys = decide (ys.length < xs.length)
  | [], _, _ => by simp [above]
  | _ :: _, [], _ => by simp [above]
  | x :: xs, y :: ys, h => by
    have e : min (x :: xs).length (y :: ys).length = min xs.length ys.length + 1 := by simp [Nat.add_min_add_right]
    rw [e] at h
    simp only [List.take_succ_cons, List.cons.injEq] at h
    simp only [above, h.1, if_true, List.length_cons, Nat.add_lt_add_iff_right]
    exact above_end xs ys h.2
theorem c_above {w : World} {mg mb : Str → Option Value} {A : Around} {s : Shared} {E : Value → Shared → Prop} {Q : Value → Shared → Prop}
    (C : Cx w mg mb s.heap) (R : Rm 5 A) {a b : Addr} {vx vy : List Value} {xs ys : List Int}
    (ha : s.heap.IsList a vx.toArray) (ia : IntsAre vx xs) (hb : s.heap.IsList b vy.toArray) (ib : IntsAre vy ys) (lx : xs.length < 1000) (ly : ys.length < 1000)
    (h : ∀ s', Keeps s s' → Q (.bool (above xs ys)) s') :
    wpAny (model PR w) A (call (.ref 78) [.ref a, .ref b]) Q E s := by
  have lvx : vx.length = xs.length := ia.length
  have lvy : vy.length = ys.length := ib.length
  refine call_own C R rfl rfl rfl rfl rfl rfl rfl (by decide) ?_
  intro h₁ tk F R'
  have N : News s.heap s.heap.objs.size h₁ [] := News.nil
  refine wpAny_execs_cons (For_invV s.heap rfl rfl ?_ (hE := PassesOwn.never))
  refine cT1 (nmB F C rfl rfl ⟨rfl, ?_⟩)
  refine cB2 (nmB F C rfl rfl ⟨rfl, ?_⟩)
  refine cB1 (nmB F C rfl rfl ⟨rfl, ?_⟩)
  refine nmL F rfl ?_
  refine call_len_list (ha.at (F.keep _)) (by simp; omega) ?_
  refine cB1 (nmB F C rfl rfl ⟨rfl, ?_⟩)
  refine nmL F rfl ?_
  refine call_len_list (hb.at (F.keep _)) (by simp; omega) ?_
  refine min_two_N R'.hh F N ?_
  intro h₂ tk₂ F₂ N₂
  have sx : vx.toArray.size = xs.length := by simp [lvx]
  have sy : vy.toArray.size = ys.length := by simp [lvy]
  rw [sx, sy]
  have en : (if (ys.length : Int) < xs.length then (ys.length : Int) else xs.length) = ((min xs.length ys.length : Nat) : Int) := by
    split <;> omega
  rw [en]
  refine loop_range (fun i m₁ news₁ => news₁ = [] ∧ m₁ "first" = some (.ref a) ∧ m₁ "second" = some (.ref b) ∧ xs.take i = ys.take i) R'.hh (by omega) (by omega) F₂ N₂ ⟨rfl, rfl, rfl, by simp⟩ ?turn ?done
  case turn =>
    rintro I i u m₁ news₁ h₃ tk₃ own hi ⟨rfl, e1, e2, e3⟩ hI hown hfp F₃ N₃
    have hix : i < xs.length := by omega
    have hiy : i < ys.length := by omega
    have hob1 := ia.get i xs[i] (by simp)
    obtain ⟨tx, gx⟩ := hob1
    have hob2 := ib.get i ys[i] (by simp)
    obtain ⟨ty, gy⟩ := hob2
    refine wpAny_execs_cons (wpAny_If (wpAny_isTrue_Compare1 ?_))
    refine Subscript_ (nmL F₃ ((if_neg (by decide)).trans e1) ?_)
    refine nmL F₃ (if_pos rfl) ?_
    refine tail_any (ops := _) (ha.at (F₃.keep _)).typeIs slot_list_getitem.lookup (wpAny_getItem_list (x := .int xs[i] tx) (ha.at (F₃.keep _)) (by omega) (by omega) (by simpa using gx) ?_) (by with_unfolding_all rfl)
    refine Subscript_ (nmL F₃ ((if_neg (by decide)).trans e2) ?_)
    refine nmL F₃ (if_pos rfl) ?_
    refine tail_any (ops := _) (hb.at (F₃.keep _)).typeIs slot_list_getitem.lookup (wpAny_getItem_list (x := .int ys[i] ty) (hb.at (F₃.keep _)) (by omega) (by omega) (by simpa using gy) ?_) (by with_unfolding_all rfl)
    refine PyProof.Rows.ne_int ?_
    refine wpAny_truthy_bool ?_
    by_cases hne : xs[i] = ys[i]
    · rw [if_neg (by simp [hne])]
      refine wpAny_execs_nil (wpAny_execs_nil ?_)
      refine ⟨h₃, tk₃, _, [], rfl, F₃, N₃, by simp, rfl, (if_neg (by decide)).trans e1, (if_neg (by decide)).trans e2, ?_⟩
      rw [List.take_add_one, List.take_add_one, e3]
      simp [hix, hiy, hne]
    · rw [if_pos (by simp [hne])]
      refine wpAny_execs_cons (wpAny_Return_some (wpAny_Compare1 ?_))
      refine Subscript_ (nmL F₃ ((if_neg (by decide)).trans e1) ?_)
      refine nmL F₃ (if_pos rfl) ?_
      refine tail_any (ops := _) (ha.at (F₃.keep _)).typeIs slot_list_getitem.lookup (wpAny_getItem_list (x := .int xs[i] tx) (ha.at (F₃.keep _)) (by omega) (by omega) (by simpa using gx) ?_) (by with_unfolding_all rfl)
      refine Subscript_ (nmL F₃ ((if_neg (by decide)).trans e2) ?_)
      refine nmL F₃ (if_pos rfl) ?_
      refine tail_any (ops := _) (hb.at (F₃.keep _)).typeIs slot_list_getitem.lookup (wpAny_getItem_list (x := .int ys[i] ty) (hb.at (F₃.keep _)) (by omega) (by omega) (by simpa using gy) ?_) (by with_unfolding_all rfl)
      refine PyProof.Rows.gt_int ?_
      rw [← above_at i xs ys xs[i] ys[i] e3 (by simp) (by simp) hne]
      exact h _ ⟨h₃, tk₃, rfl, F₃.keep⟩
  case done =>
    rintro h₃ tk₃ m₃ news₃ F₃ N₃ ⟨rfl, e1, e2, e3⟩
    refine wpAny_execs_cons (wpAny_Return_some (wpAny_Compare1 ?_))
    refine cB1 (nmB F₃ C rfl rfl ⟨rfl, ?_⟩)
    refine nmL F₃ e1 ?_
    refine call_len_list (ha.at (F₃.keep _)) (by rw [sx]; omega) ?_
    refine cB1 (nmB F₃ C rfl rfl ⟨rfl, ?_⟩)
    refine nmL F₃ e2 ?_
    refine call_len_list (hb.at (F₃.keep _)) (by rw [sy]; omega) ?_
    refine PyProof.Rows.gt_int ?_
    have e4 := above_end xs ys (by simpa using e3)
    rw [sx, sy]
    have e5 : decide ((ys.length : Int) < xs.length) = above xs ys := by rw [e4]; simp
    rw [e5]
    exact h _ ⟨h₃, _, rfl, F₃.keep⟩
end Mine
end
section
open PySem PySem.W PyProof.Rows PySem.Calls
set_option maxRecDepth 100000
set_option maxHeartbeats 400000
namespace Mine
def S (l : List Nat) : Str := ⟨l.toArray⟩
theorem S_append (a b : List Nat) : S a ++ S b = S (a ++ b) := by
  show Str.append (S a) (S b) = _
  simp [S, Str.append]
theorem S_length (a : List Nat) : (S a).length = a.length := by simp [S, Str.length]
theorem ints_at {vs : List Value} {ns : List Int} (h : IntsAre vs ns) : ∀ {i : Nat} {v : Value}, vs[i]? = some v → ∃ n t, v = .int n t ∧ ns[i]? = some n := by
  induction h with
  | nil => intro i v e; simp at e
  | cons n t _ ih =>
    intro i v e
    cases i with
    | zero => simp at e; exact ⟨n, t, e.symm, rfl⟩
    | succ i => simpa using ih (by simpa using e)
def figs : List Nat := [48, 49, 50, 51, 52, 53, 54, 55, 56, 57, 65, 66, 67, 68, 69, 70]
def fig (n : Nat) : Nat := figs.getD n 0
def sp1 (r : Int) : List Nat := if r.fdiv 256 = 61 then [61, fig (((r.fmod 256).fdiv 16).toNat), fig ((r.fmod 16).toNat)] else [(r.fdiv 256).toNat]
def spell (cs : List Nat) (rs : List Int) : List Nat := if rs = [] then [] else [61, 63] ++ cs ++ [63, 113, 63] ++ rs.flatMap sp1 ++ [61]
theorem sp1_len (r : Int) : (sp1 r).length ≤ 3 := by unfold sp1; split <;> simp
theorem flat_len (rs : List Int) : (rs.flatMap sp1).length ≤ 3 * rs.length := by
  induction rs with
  | nil => simp
  | cons r rs ih => have := sp1_len r; simp only [List.flatMap_cons, List.length_append, List.length_cons]; omega
theorem seqIdx {i : Int} {n : Nat} (h0 : 0 ≤ i) (h : i.toNat < n) : seqIndex? i n = some i.toNat := by
  simp only [seqIndex?]
  rw [if_neg (show ¬ i < 0 by omega), if_pos (by simp; omega)]
theorem str_item {w : World} {A : Around} {s : Shared} {E : Value → Shared → Prop} {Q : Value → Shared → Prop} {value slice : Expr} {l : List Nat} {i : Int} {c : Nat} {t u : Tok} (h0 : 0 ≤ i) (hc : l[i.toNat]? = some c) (hl : l.length < 2 ^ 31)
    (h : Q (.str (S [c]) s.toks) { s with toks := s.toks + 1 })
    (hs : subscripted slice false (.str (S l) t) (.int i u) = operate [.str (S l) t, .int i u] (getItem (.str (S l) t) (.int i u)) := by with_unfolding_all rfl) :
    wpAny (model PR w) A (subscriptTail value slice (.str (S l) t) (.int i u)) Q E s := by
  have hlt : i.toNat < l.length := by
    by_cases q : i.toNat < l.length
    · exact q
    · rw [List.getElem?_eq_none (by omega)] at hc; cases hc
  refine tail_any (typeIs_str s _ t) PyProof.Rows.slot_str_getitem.lookup (PyProof.Rows.getItem_str (by simp; omega) ?_ h) hs
  rw [S_length, seqIdx h0 hlt]
  simpa [S] using hc
section
variable {w : World} {A : Around} {s : Shared} {E : Value → Shared → Prop} {Q : Value → Shared → Prop} {l k : List Nat} {t u : Tok} {env : Env}
theorem add_S (h : ∀ t' tk, Q (.str (S (l ++ k)) t') { s with toks := tk }) (hsz : l.length + k.length ≤ 16777216) : wpAny (model PR w) A (binaryOp .Add (.str (S l) t) (.str (S k) u)) Q E s :=
  PyProof.Rows.add_str (fun t' tk => S_append l k ▸ h t' tk) (by rw [S_length, S_length]; exact hsz)
theorem iadd_S (h : ∀ t' tk, Q (.str (S (l ++ k)) t') { s with toks := tk }) (hsz : l.length + k.length ≤ 16777216) : wpAny (model PR w) A (inplaceOp .Add (.str (S l) t) (.str (S k) u)) Q E s :=
  PyProof.Rows.iadd_str (fun t' tk => S_append l k ▸ h t' tk) (by rw [S_length, S_length]; exact hsz)
theorem constS {x : Str} {n : Nat} {pos : Pos} (l : List Nat) (hx : x = S l) (h : Q (.str (S l) s.toks) { s with toks := s.toks + 1 }) : wpAny (model PR w) A (eval (.Constant (.str x) n pos) env) Q E s := by
  subst hx; exact wpAny_Constant_str h
end
/-- a rank's bounds -/
def RankOk (r : Int) : Prop := 0 ≤ r ∧ r < 256 * 128
theorem c_spelled {w : World} {mg mb : Str → Option Value} {A : Around} {s : Shared} {E : Value → Shared → Prop} {Q : Value → Shared → Prop}
    (C : Cx w mg mb s.heap) (R : Rm 5 A) {a : Addr} {vx : List Value} {rs : List Int} {cs : List Nat} {tc : Tok}
    (ha : s.heap.IsList a vx.toArray) (ia : IntsAre vx rs) (lx : rs.length < 1000) (hr : ∀ r ∈ rs, RankOk r) (lc : cs.length < 1000)
    (h : ∀ t s', Keeps s s' → Q (.str (S (spell cs rs)) t) s') :
    wpAny (model PR w) A (call (.ref 71) [.ref a, .str (S cs) tc]) Q E s := by
  have lvx : vx.length = rs.length := ia.length
  have sx : vx.toArray.size = rs.length := by simp [lvx]
  refine call_own C R rfl rfl rfl rfl rfl rfl rfl (by decide) ?_
  intro h₁ tk F R'
  have N : News s.heap s.heap.objs.size h₁ [] := News.nil
  refine wpAny_execs_cons (wpAny_Assign_Name (wpAny_Constant_str (stN F N ?_)))
  intro h₂ F₂ N₂
  refine wpAny_execs_cons (wpAny_Assign_Name (wpAny_Constant_str (stN F₂ N₂ ?_)))
  intro h₃ F₃ N₃
  refine wpAny_execs_cons (For_invV s.heap rfl rfl ?_ (hE := PassesOwn.never))
  refine nmL F₃ rfl ?_
  refine loop_list (fun i m₁ news₁ => news₁ = [] ∧ (∃ t, m₁ "figures" = some (.str (S figs) t)) ∧ m₁ "charset" = some (.str (S cs) tc) ∧ m₁ "ranks" = some (.ref a) ∧ ∃ t, m₁ "word" = some (.str (S ((rs.take i).flatMap sp1)) t))
    R'.hh (ha.at (F₃.keep _)) ?ne F₃ N₃ ⟨rfl, ⟨_, rfl⟩, rfl, rfl, ⟨_, rfl⟩⟩ ?turn ?done
  case ne => obtain ⟨o, ho, _⟩ := ha; exact Nat.ne_of_lt (Heap.lt_size ho)
  case turn =>
    rintro I i v m₁ news₁ h₄ tk₄ own hi ⟨rfl, ⟨tf, e1⟩, e2, e3, ⟨tw, e4⟩⟩ hI hown hfp F₄ N₄
    have hob1 := ints_at ia hi
    obtain ⟨r, tr, hrv, hri⟩ := hob1
    subst hrv
    have hrok := hr r (List.mem_of_getElem? hri)
    obtain ⟨r0, r1⟩ := hrok
    have htake : rs.take (i + 1) = rs.take i ++ [r] := by rw [List.take_add_one, hri]; rfl
    have hlen : ((rs.take i).flatMap sp1).length ≤ 3000 := by have := flat_len (rs.take i); have := List.length_take_le' i rs; omega
    have hd : r.fdiv 256 = r / 256 := Int.fdiv_eq_ediv_of_nonneg _ (by omega)
    refine wpAny_execs_cons (wpAny_AugAssign_Name (ldn F₄ ((if_neg (by decide)).trans e4) ?_))
    refine cB1 (nmB F₄ C rfl rfl ⟨rfl, ?_⟩)
    refine wpAny_BinOp (nmL F₄ (if_pos rfl) (wpAny_Constant_int ?_))
    refine floordiv_int (by decide) ?_ (Or.inl (PyProof.noPylong_small (by omega)))
    refine PySem.P.chr_of_int (by rw [hd]; simp; omega) ?_
    refine iadd_S (k := [_]) ?_ (by simp only [List.length_cons, List.length_nil]; omega)
    intro t₅ tk₅
    refine stN F₄ N₄ ?_
    intro h₆ F₆ N₆
    refine wpAny_execs_cons (wpAny_If (wpAny_isTrue_Compare1 ?_))
    refine wpAny_BinOp (nmL F₆ ((if_neg (by decide)).trans (if_pos rfl)) (wpAny_Constant_int ?_))
    refine floordiv_int (by decide) ?_ (Or.inl (PyProof.noPylong_small (by omega)))
    refine wpAny_Constant_int ?_
    refine PyProof.Rows.eq_int ?_
    refine wpAny_truthy_bool ?_
    by_cases h61 : r.fdiv 256 = 61
    · rw [if_pos (by simp [h61])]
      have hm : r.fmod 256 = r % 256 := Int.fmod_eq_emod_of_nonneg _ (by omega)
      have hm2 : r.fmod 16 = r % 16 := Int.fmod_eq_emod_of_nonneg _ (by omega)
      have hd2 : (r.fmod 256).fdiv 16 = r % 256 / 16 := by rw [hm]; exact Int.fdiv_eq_ediv_of_nonneg _ (by omega)
      refine wpAny_execs_cons (wpAny_AugAssign_Name (ldn F₆ (if_pos rfl) ?_))
      refine wpAny_BinOp ?_
      refine Subscript_ (nmL F₆ ((if_neg (by decide)).trans ((if_neg (by decide)).trans e1)) ?_)
      refine wpAny_BinOp (wpAny_BinOp (nmL F₆ ((if_neg (by decide)).trans (if_pos rfl)) (wpAny_Constant_int ?_)))
      refine PyProof.Rows.mod_int (by decide) (wpAny_Constant_int ?_)
      refine floordiv_int (by decide) ?_ (Or.inl (PyProof.noPylong_small (by decide)))
      refine str_item (c := fig (((r.fmod 256).fdiv 16).toNat)) (by rw [hd2]; omega) ?_ (by decide) ?_
      · have : ((r.fmod 256).fdiv 16).toNat < figs.length := by rw [hd2]; simp [figs]; omega
        unfold fig; rw [List.getD_eq_getElem?_getD, List.getElem?_eq_getElem this]; rfl
      refine Subscript_ (nmL F₆ ((if_neg (by decide)).trans ((if_neg (by decide)).trans e1)) ?_)
      refine wpAny_BinOp (nmL F₆ ((if_neg (by decide)).trans (if_pos rfl)) (wpAny_Constant_int ?_))
      refine PyProof.Rows.mod_int (by decide) ?_
      refine str_item (c := fig ((r.fmod 16).toNat)) (by rw [hm2]; omega) ?_ (by decide) ?_
      · have : (r.fmod 16).toNat < figs.length := by rw [hm2]; simp [figs]; omega
        unfold fig; rw [List.getD_eq_getElem?_getD, List.getElem?_eq_getElem this]; rfl
      refine add_S ?_ (by simp only [List.length_cons, List.length_nil]; omega)
      intro t₇ tk₇
      refine iadd_S ?_ (by simp only [List.length_append, List.length_cons, List.length_nil]; omega)
      intro t₈ tk₈
      refine stN F₆ N₆ ?_
      intro h₉ F₉ N₉
      refine wpAny_execs_nil (wpAny_execs_nil ?_)
      refine ⟨h₉, _, _, [], rfl, F₉, N₉, by simp, rfl, ⟨tf, ?_⟩, ?_, ?_, ⟨t₈, ?_⟩⟩
      · exact (if_neg (by decide)).trans ((if_neg (by decide)).trans ((if_neg (by decide)).trans e1))
      · exact (if_neg (by decide)).trans ((if_neg (by decide)).trans ((if_neg (by decide)).trans e2))
      · exact (if_neg (by decide)).trans ((if_neg (by decide)).trans ((if_neg (by decide)).trans e3))
      · refine (if_pos rfl).trans ?_
        rw [htake, List.flatMap_append, List.flatMap_singleton, sp1, if_pos h61, h61]
        simp
    · rw [if_neg (by simp [h61])]
      refine wpAny_execs_nil (wpAny_execs_nil ?_)
      refine ⟨h₆, _, _, [], rfl, F₆, N₆, by simp, rfl, ⟨tf, ?_⟩, ?_, ?_, ⟨t₅, ?_⟩⟩
      · exact (if_neg (by decide)).trans ((if_neg (by decide)).trans e1)
      · exact (if_neg (by decide)).trans ((if_neg (by decide)).trans e2)
      · exact (if_neg (by decide)).trans ((if_neg (by decide)).trans e3)
      · refine (if_pos rfl).trans ?_
        rw [htake, List.flatMap_append, List.flatMap_singleton, sp1, if_neg h61]
  case done =>
    rintro h₄ tk₄ m₄ news₄ F₄ N₄ ⟨rfl, ⟨tf, e1⟩, e2, e3, ⟨tw, e4⟩⟩
    rw [lvx, List.take_length] at e4
    have hlen : (rs.flatMap sp1).length ≤ 3000 := by have := flat_len rs; omega
    refine wpAny_execs_cons (wpAny_Return_some (wpAny_IfExp (isTrue_plain ?_)))
    refine nmL F₄ e3 (wpAny_truthy_list (ha.at (F₄.keep _)) (by rw [sx]; omega) ?_)
    by_cases hn : rs = []
    · subst hn
      have hv : vx = [] := by cases vx with | nil => rfl | cons _ _ => simp at lvx
      subst hv
      refine constS (spell cs []) (by unfold spell; rw [if_pos rfl]; decide +kernel) ?_
      exact h _ _ ⟨h₄, _, rfl, F₄.keep⟩
    · have hv : vx ≠ [] := by intro q; subst q; cases rs with | nil => exact hn rfl | cons _ _ => simp at lvx
      rw [if_pos (by simpa using hv)]
      refine wpAny_BinOp (wpAny_BinOp (wpAny_BinOp (wpAny_BinOp (constS [61, 63] (by decide +kernel) (nmL F₄ e2 ?_)))))
      refine add_S ?_ (by simp only [List.length_append, List.length_cons, List.length_nil]; omega)
      intro t₅ tk₅
      refine constS [63, 113, 63] (by decide +kernel) ?_
      refine add_S ?_ (by simp only [List.length_append, List.length_cons, List.length_nil]; omega)
      intro t₆ tk₆
      refine nmL F₄ e4 ?_
      refine add_S ?_ (by simp only [List.length_append, List.length_cons, List.length_nil]; omega)
      intro t₇ tk₇
      refine constS [61] (by decide +kernel) ?_
      refine add_S ?_ (by simp only [List.length_append, List.length_cons, List.length_nil]; omega)
      intro t₈ tk₈
      have := h t₈ _ ⟨h₄, tk₈, rfl, F₄.keep⟩
      unfold spell at this
      rw [if_neg hn] at this
      exact this
end Mine
end
section
open PySem PySem.W PyProof.Rows PySem.Calls
set_option maxRecDepth 100000
set_option maxHeartbeats 400000
namespace Mine
theorem append_D {w : World} {A : Around} {s : Shared} {E : Value → Shared → Prop} {Q : Flow → Shared → Prop} {h₀ : Heap} {L D : Addr} {m : Str → Option Value} {pre post : List (Addr × Obj)} {its : Array Value} {n : Nat} {env : Env} {x : Str} {np apos pos epos : Pos} {e : Expr} {pl : Sem Bool}
    (hx : wpAny (model PR w) A (eval (.Name x np) env) (fun r s₁ => r = .ref D ∧ s₁.heap.get? D = some (listOf its n) ∧ wpAny (model PR w) A (eval e env) (fun v s₂ => Fr h₀ L s₂.heap m ∧ News h₀ L s₂.heap (pre ++ (D, listOf its n) :: post) ∧
      ∀ h', Fr h₀ L h' m → News h₀ L h' (pre ++ (D, listOf (its.push v) (n + 1)) :: post) → Heap.SameBut D s₂.heap h' → Q .next { s₂ with heap := h' }) E s₁) E s)
    (hpre : ∀ p ∈ pre, p.1 ≠ D) (hpost : ∀ p ∈ post, p.1 ≠ D) (hsz : its.size ≤ 10000)
    (hi : interactive env = false := by rfl) (hs : swapsWith (.Call (.Attribute (.Name x np) "append" apos) [e] [] pos) none epos.line env = pure false := by rfl)
    (he : eval (.Call (.Attribute (.Name x np) "append" apos) [e] [] pos) env = (do
      let ov ← eval (.Name x np) env
      standAt apos.atName
      let (f, first) ← holding [ov] (getMethod ov "append" pl)
      callWith pos f first (backTo pos (starEach [e] env)) []) := by rfl)
    (hse : starEach [e] env = (false, eval e env) :: starEach [] env := by rfl) :
    wpAny (model PR w) A (exec (.Expr (.Call (.Attribute (.Name x np) "append" apos) [e] [] pos) epos) env) Q E s := by
  refine wpAny_Expr (MethodCall_ (wpAny_mono hx ?_ fun _ _ x => x) he) hi hs
  rintro r s₁ ⟨rfl, hD, h₁⟩
  refine getMethod_list_append hD rfl rfl ?_
  refine callWith_method1 ?_ hse rfl
  rw [hse]
  refine Calls.spliced_cons (wpAny_mono h₁ ?_ fun _ _ x => x)
  rintro v s₂ ⟨F, N, h₂⟩
  refine Calls.spliced_nil ?_
  have z := N (D, listOf its n) (List.mem_append.mpr (.inr (.head _)))
  refine append_at (hsz := Nat.le_trans hsz (by unfold sizeLine; omega)) z.1 fun h' hs ho' => ?_
  exact h₂ h' (F.change hs z.2.1 z.2.2) (news_set N hpre hpost hs ho') hs
def safeN (n : Nat) : Bool := n == 33 || n == 42 || n == 43 || n == 45 || n == 47 || (decide (48 ≤ n) && decide (n ≤ 57)) || (decide (65 ≤ n) && decide (n ≤ 90)) || (decide (97 ≤ n) && decide (n ≤ 122))
def safeL : List Nat := [33, 42, 43, 45, 47, 48, 49, 50, 51, 52, 53, 54, 55, 56, 57, 65, 66, 67, 68, 69, 70, 71, 72, 73, 74, 75, 76, 77, 78, 79, 80, 81, 82, 83, 84, 85, 86, 87, 88, 89, 90, 97, 98, 99, 100, 101, 102, 103, 104, 105, 106, 107, 108, 109, 110, 111, 112, 113, 114, 115, 116, 117, 118, 119, 120, 121, 122]
theorem safe_str : Str.ofString "!*+-/0123456789ABCDEFGHIJKLMNOPQRSTUVWXYZabcdefghijklmnopqrstuvwxyz" = S safeL := by decide +kernel
theorem safe_at : ∀ n : Fin 256, decide (n.val ∈ safeL) = safeN n.val := by decide +kernel
theorem safe_in (n : Fin 256) : (!(Builtin.Str.occurrences (Str.ofString "!*+-/0123456789ABCDEFGHIJKLMNOPQRSTUVWXYZabcdefghijklmnopqrstuvwxyz") ⟨#[n.val]⟩ 0 (Str.ofString "!*+-/0123456789ABCDEFGHIJKLMNOPQRSTUVWXYZabcdefghijklmnopqrstuvwxyz").length 1).isEmpty) = safeN n.val := by
  rw [StrLaws.found_one, safe_str, ← safe_at n]
  exact decide_eq_decide.mpr (by simp [S])
def rank1 (n : Nat) : Int := if n = 32 then 256 * 95 else if safeN n then 256 * (n : Int) else 256 * 61 + n
def rankL (os : List Nat) : List Int := if os = [] then [] else os.map rank1 ++ [256 * 63]
def zs (os : List Nat) : List Int := List.map (fun n : Nat => (n : Int)) os
theorem ints_push {vs : List Value} {ns : List Int} (h : IntsAre vs ns) (n : Int) (t : Tok) : IntsAre (vs ++ [.int n t]) (ns ++ [n]) := by
  induction h with
  | nil => exact .cons n t .nil
  | cons k u _ ih => exact .cons k u ih
theorem c_ranks {w : World} {mg mb : Str → Option Value} {A : Around} {s : Shared} {E : Value → Shared → Prop} {Q : Value → Shared → Prop}
    (C : Cx w mg mb s.heap) (R : Rm 5 A) {a : Addr} {vx : List Value} {os : List Nat}
    (ha : s.heap.IsList a vx.toArray) (ia : IntsAre vx (zs os)) (lx : os.length < 900) (ho : ∀ o ∈ os, o < 256)
    (h : ∀ b vs' s', Keeps s s' → s'.heap.IsList b vs'.toArray → IntsAre vs' (rankL os) → s.heap.get? b = none → Q (.ref b) s') :
    wpAny (model PR w) A (call (.ref 64) [.ref a]) Q E s := by
  have lvx : vx.length = os.length := by have := ia.length; simpa [zs] using this
  have sx : vx.toArray.size = os.length := by simp [lvx]
  refine call_own C R rfl rfl rfl rfl rfl rfl rfl (by decide) ?_
  intro h₁ tk F R'
  have N : News s.heap s.heap.objs.size h₁ [] := News.nil
  refine wpAny_execs_cons (wpAny_Assign_Name (List_ (Calls.spliced_nil ?_)))
  refine newList_K F N ?_ (by decide)
  intro D h₂ F₂ N₂ _
  refine stN F₂ N₂ ?_
  intro h₃ F₃ N₃
  have hDn : s.heap.get? D = none := (N₃ _ (.head _)).2.2
  have haD : a ≠ D := by rintro rfl; obtain ⟨o, ho, _⟩ := ha; rw [hDn] at ho; cases ho
  refine wpAny_execs_cons (For_invV s.heap rfl rfl ?_ (hE := PassesOwn.never))
  refine nmL F₃ ((if_neg (by decide)).trans rfl) ?_
  refine loop_list (fun i m₁ news₁ => ∃ vals k, news₁ = [(D, listOf vals.toArray k)] ∧ IntsAre vals ((os.take i).map rank1) ∧ m₁ "row" = some (.ref a) ∧ m₁ "ranks" = some (.ref D))
    R'.hh (ha.at (F₃.keep _)) ?ne F₃ N₃ ⟨[], 0, rfl, .nil, (if_neg (by decide)).trans rfl, if_pos rfl⟩ ?turn ?done
  case ne => obtain ⟨o, ho, _⟩ := ha; exact Nat.ne_of_lt (Heap.lt_size ho)
  case turn =>
    rintro I i v m₁ news₁ h₄ tk₄ own hi ⟨vals, k, rfl, e1, e2, e3⟩ hI hown hfp F₄ N₄
    have hob1 := ints_at ia hi
    obtain ⟨r, tr, hrv, hri⟩ := hob1
    subst hrv
    have hDI : D ≠ I := hI _ (.head _)
    have hpre : ∀ p ∈ own, p.1 ≠ D := by
      intro p hp
      rcases hfp p hp with e | e <;> rw [e]
      · exact fun q => hDI q.symm
      · exact haD
    obtain ⟨o, hoi, rfl⟩ : ∃ o, os[i]? = some o ∧ (o : Int) = r := by simpa [zs] using hri
    have ho256 := ho o (List.mem_of_getElem? hoi)
    have htake : os.take (i + 1) = os.take i ++ [o] := by rw [List.take_add_one, hoi]; rfl
    have hlv : vals.length ≤ 900 := by have := e1.length; have := List.length_take_le' i os; simp at *; omega
    have fin : ∀ (x : Int) (u : Tok) tk' (h' : Heap), rank1 o = x → Fr s.heap s.heap.objs.size h' (fun y => if y = Str.ofString "octet" then some (Value.int (o : Int) tr) else m₁ y) → News s.heap s.heap.objs.size h' (own ++ (D, listOf (vals.toArray.push (.int x u)) (k + 1)) :: []) →
        ∃ h'' tk m₂ news₂, ({ heap := h', gens := s.gens, drawn := s.drawn, toks := tk', os := s.os } : Shared) = { heap := h'', gens := s.gens, drawn := s.drawn, toks := tk, os := s.os } ∧ Fr s.heap s.heap.objs.size h'' m₂ ∧ News s.heap s.heap.objs.size h'' (own ++ news₂) ∧ (∀ p ∈ news₂, p.1 ≠ I) ∧
          ∃ vals k, news₂ = [(D, listOf vals.toArray k)] ∧ IntsAre vals ((os.take (i + 1)).map rank1) ∧ m₂ "row" = some (.ref a) ∧ m₂ "ranks" = some (.ref D) := by
      intro x u tk' h' hx F' N'
      refine ⟨h', tk', _, _, rfl, F', N', ?_, vals ++ [.int x u], k + 1, by simp, ?_, (if_neg (by decide)).trans e2, (if_neg (by decide)).trans e3⟩
      · intro p hp; simp at hp; rw [hp]; exact hDI
      · rw [htake, List.map_append, List.map_singleton, hx]; exact ints_push e1 x u
    refine wpAny_execs_cons (wpAny_If (wpAny_isTrue_Compare1 ?_))
    refine nmL F₄ (if_pos rfl) (wpAny_Constant_int (PyProof.Rows.eq_int (wpAny_truthy_bool ?_)))
    by_cases h32 : o = 32
    · subst h32
      rw [if_pos (by decide)]
      refine wpAny_execs_cons (append_D (L := s.heap.objs.size) (pre := own) (post := []) (h₀ := s.heap) (m := (fun y => if y = Str.ofString "octet" then some (Value.int ((32 : Nat) : Int) tr) else m₁ y)) (nmL F₄ ((if_neg (by decide)).trans e3) ⟨rfl, (N₄ _ (List.mem_append.mpr (.inr (.head _)))).1, ?_⟩) hpre (by simp) (by simp; omega))
      refine wpAny_BinOp (wpAny_Constant_int (wpAny_Constant_int (PySem.P.mul_int ?_ (by mul_fits))))
      refine ⟨F₄, N₄, ?_⟩
      intro h' F' N' _
      refine wpAny_execs_nil (wpAny_execs_nil ?_)
      exact fin _ _ _ h' (by decide) F' N'
    · rw [if_neg (by simp; omega)]
      refine wpAny_execs_cons (wpAny_If (wpAny_isTrue_Compare1 ?_))
      refine cB1 (nmB F₄ C rfl rfl ⟨rfl, ?_⟩)
      refine nmL F₄ (if_pos rfl) ?_
      refine PySem.P.chr_of_int (by simp; omega) (wpAny_Constant_str ?_)
      refine PyProof.Rows.in_str (wpAny_truthy_bool ?_)
      have hs := safe_in ⟨o, ho256⟩
      have ho' : ((o : Int).toNat) = o := by simp
      rw [ho', hs]
      by_cases hsafe : safeN o = true
      · rw [if_pos hsafe]
        refine wpAny_execs_cons (append_D (L := s.heap.objs.size) (pre := own) (post := []) (h₀ := s.heap) (m := (fun y => if y = Str.ofString "octet" then some (Value.int (o : Int) tr) else m₁ y)) (nmL F₄ ((if_neg (by decide)).trans e3) ⟨rfl, (N₄ _ (List.mem_append.mpr (.inr (.head _)))).1, ?_⟩) hpre (by simp) (by simp; omega))
        refine wpAny_BinOp (wpAny_Constant_int (nmL F₄ (if_pos rfl) (PySem.P.mul_int ?_ (IntMulOk.of_left (by decide +kernel)))))
        refine ⟨F₄, N₄, ?_⟩
        intro h' F' N' _
        refine wpAny_execs_nil (wpAny_execs_nil (wpAny_execs_nil ?_))
        exact fin _ _ _ h' (by simp [rank1, h32, hsafe]) F' N'
      · rw [if_neg hsafe]
        refine wpAny_execs_cons (append_D (L := s.heap.objs.size) (pre := own) (post := []) (h₀ := s.heap) (m := (fun y => if y = Str.ofString "octet" then some (Value.int (o : Int) tr) else m₁ y)) (nmL F₄ ((if_neg (by decide)).trans e3) ⟨rfl, (N₄ _ (List.mem_append.mpr (.inr (.head _)))).1, ?_⟩) hpre (by simp) (by simp; omega))
        refine wpAny_BinOp (wpAny_BinOp (wpAny_Constant_int (wpAny_Constant_int (PySem.P.mul_int ?_ (by mul_fits)))))
        refine nmL F₄ (if_pos rfl) (PyProof.Rows.add_int ?_)
        refine ⟨F₄, N₄, ?_⟩
        intro h' F' N' _
        refine wpAny_execs_nil (wpAny_execs_nil (wpAny_execs_nil ?_))
        exact fin _ _ _ h' (by simp [rank1, h32, hsafe]) F' N'
  case done =>
    rintro h₄ tk₄ m₄ news₄ F₄ N₄ ⟨vals, k, rfl, e1, e2, e3⟩
    rw [lvx, List.take_length] at e1
    have hlv : vals.length < 900 := by have := e1.length; simp at this; omega
    have hD₄ : h₄.IsList D vals.toArray := ⟨_, (N₄ _ (.head _)).1, rfl, _, rfl⟩
    refine wpAny_execs_cons (wpAny_Return_some (wpAny_IfExp (isTrue_plain ?_)))
    refine nmL F₄ e2 (wpAny_truthy_list (ha.at (F₄.keep _)) (by rw [sx]; omega) ?_)
    by_cases hn : os = []
    · subst hn
      have hv : vx = [] := by cases vx with | nil => rfl | cons _ _ => simp at lvx
      subst hv
      refine List_ (Calls.spliced_nil ?_)
      refine newList_K F₄ N₄ ?_ (by decide)
      intro b h₅ F₅ N₅ _
      exact h b [] _ ⟨h₅, _, rfl, F₅.keep⟩ ⟨_, (N₅ _ (.head _)).1, rfl, _, rfl⟩ .nil (N₅ _ (.head _)).2.2
    · have hv : vx ≠ [] := by intro q; subst q; cases os with | nil => exact hn rfl | cons _ _ => simp at lvx
      rw [if_pos (by simpa using hv)]
      refine wpAny_BinOp (nmL F₄ e3 (List_ (Calls.spliced_cons (wpAny_BinOp (wpAny_Constant_int (wpAny_Constant_int (PySem.P.mul_int (Calls.spliced_nil ?_) (by mul_fits))))))))
      refine newList_K F₄ N₄ ?_ (by show 1 ≤ sizeLine; decide)
      intro b h₅ F₅ N₅ _
      refine add_arrays F₅ N₅ ⟨_, (N₅ _ (.tail _ (.head _))).1, rfl, _, rfl⟩ ⟨_, (N₅ _ (.head _)).1, rfl, _, rfl⟩ ?_ (by simp; unfold sizeLine; omega)
      intro h₆ F₆ N₆
      refine h _ (vals ++ [.int (256 * 63) _]) _ ⟨h₆, _, rfl, F₆.keep⟩ ⟨_, (N₆ _ (.head _)).1, rfl, _, rfl⟩ ?_ (N₆ _ (.head _)).2.2
      rw [rankL, if_neg hn]
      exact ints_push e1 _ _
end Mine
end
section
open PySem PySem.W PyProof.Rows PySem.Calls
set_option maxRecDepth 100000
set_option maxHeartbeats 2000000
namespace Mine
/-- a row of octets, as the heap bears it -/
def GoodRow (g h : Heap) (v : Value) : Prop := ∃ a vs os, v = .ref a ∧ h.IsList a vs.toArray ∧ IntsAre vs (zs os) ∧ os.length < 100 ∧ (∀ o ∈ os, o < 256) ∧ g.get? a = none
/-- a row of octets, as the ledger bears it -/
def RowIn (n : Nat) (rl : List (Addr × Obj)) (v : Value) : Prop := ∃ a vs os k, v = .ref a ∧ (a, listOf vs.toArray k) ∈ rl ∧ IntsAre vs (zs os) ∧ os.length ≤ n ∧ ∀ o ∈ os, o < 256
theorem RowIn.mono {n n' : Nat} {rl rl' : List (Addr × Obj)} {v : Value} (h : RowIn n rl v) (hn : n ≤ n') (hr : ∀ p ∈ rl, p ∈ rl') : RowIn n' rl' v := by
  obtain ⟨a, vs, os, k, e, hm, hi, hl, ho⟩ := h
  exact ⟨a, vs, os, k, e, hr _ hm, hi, Nat.le_trans hl hn, ho⟩
def tblB : List UInt8 := [32, 95, 61, 63, 48, 57, 65, 90, 97, 122, 33, 47]
theorem zs_snoc (os : List Nat) (o : Nat) : zs (os ++ [o]) = zs os ++ [(o : Int)] := by simp [zs]
theorem zs_take (os : List Nat) (k : Nat) : (zs os).take k = zs (os.take k) := by simp [zs, List.map_take]
theorem sz1 (a : Value) : [a].length ≤ sizeLine := by show 1 ≤ sizeLine; decide
theorem sz2 (a b : Value) : [a, b].length ≤ sizeLine := by show 2 ≤ sizeLine; decide
theorem sz6 (a b c d e f : Value) : [a, b, c, d, e, f].length ≤ sizeLine := by show 6 ≤ sizeLine; decide
theorem c_rows {w : World} {mg mb : Str → Option Value} {A : Around} {s : Shared} {E : Value → Shared → Prop} {Q : Value → Shared → Prop}
    (C : Cx w mg mb s.heap) (R : Rm 5 A) {a : Addr} {vx : List Value} {xs : List Int}
    (ha : s.heap.IsList a vx.toArray) (ia : IntsAre vx xs) (lx : xs.length < 1000)
    (h : ∀ b (refs : List Value) s', Keeps s s' → s'.heap.IsList b refs.toArray → (∀ v ∈ refs, GoodRow s.heap s'.heap v) → 1 ≤ refs.length → refs.length ≤ 20 → s.heap.get? b = none → Q (.ref b) s') :
    wpAny (model PR w) A (call (.ref 57) [.ref a]) Q E s := by
  have lvx : vx.length = xs.length := ia.length
  have sx : vx.toArray.size = xs.length := by simp [lvx]
  refine call_own C R rfl rfl rfl rfl rfl rfl rfl (by decide) ?_
  intro h₀ tk F₀ R'
  have N₀ : News s.heap s.heap.objs.size h₀ [] := News.nil
  refine wpAny_execs_cons ?_
  refine wpAny_Assign_Name ?_
  refine List_ ?_
  refine spliced_more ?_
  refine List_ ?_
  refine spliced_none ?_
  with_reducible refine newList_K F₀ N₀ ?_ (by decide)
  intro l1 h₁ F₁ N₁ _
  refine spliced_more ?_
  refine List_ ?_
  refine spliced_more ?_
  refine wpAny_Constant_int ?_
  refine spliced_none ?_
  with_reducible refine newList_K F₁ N₁ ?_ (sz1 _)
  intro l2 h₂ F₂ N₂ _
  refine spliced_more ?_
  refine List_ ?_
  refine spliced_more ?_
  refine wpAny_Constant_int ?_
  refine spliced_more ?_
  refine wpAny_Constant_int ?_
  refine spliced_none ?_
  with_reducible refine newList_K F₂ N₂ ?_ (sz2 _ _)
  intro l3 h₃ F₃ N₃ _
  refine spliced_more ?_
  refine List_ ?_
  refine spliced_more ?_
  refine wpAny_Constant_int ?_
  refine spliced_more ?_
  refine wpAny_Constant_int ?_
  refine spliced_none ?_
  with_reducible refine newList_K F₃ N₃ ?_ (sz2 _ _)
  intro l4 h₄ F₄ N₄ _
  refine spliced_more ?_
  refine List_ ?_
  refine spliced_more ?_
  refine wpAny_Constant_int ?_
  refine spliced_more ?_
  refine wpAny_Constant_int ?_
  refine spliced_none ?_
  with_reducible refine newList_K F₄ N₄ ?_ (sz2 _ _)
  intro l5 h₅ F₅ N₅ _
  refine spliced_more ?_
  refine List_ ?_
  refine spliced_more ?_
  refine wpAny_Constant_int ?_
  refine spliced_more ?_
  refine wpAny_Constant_int ?_
  refine spliced_none ?_
  with_reducible refine newList_K F₅ N₅ ?_ (sz2 _ _)
  intro l6 h₆ F₆ N₆ _
  refine spliced_none ?_
  with_reducible refine newList_K F₆ N₆ ?_ (sz6 _ _ _ _ _ _)
  intro D h₇ F₇ N₇ hD
  refine stN F₇ N₇ ?_
  intro h₈ F₈ N₈
  refine wpAny_execs_cons (For_invV s.heap rfl rfl ?_ (hE := PassesOwn.never))
  refine Subscript_ (nmL F₈ ((if_neg (by decide)).trans rfl) ?_)
  refine wpAny_Slice (evalPart_none_step (evalPart_some_step (wpAny_Constant_int (evalPart_none_step ?_))))
  refine slice_list F₈ N₈ (ha.at (F₈.keep _)) .none (.int 5 _) ?_ (by with_unfolding_all rfl) (by intro _; with_unfolding_all rfl) (by rw [sx]; unfold sizeLine; omega)
  intro h₉ F₉ N₉
  have i9 := slice_ints_uptoW ia (y := 5) (by decide)
  have hDlt : D ≠ h₈.objs.size + 1 := Nat.ne_of_lt (Nat.lt_succ_of_lt (Heap.lt_size (N₈ _ (List.Mem.head _)).1))
  have hlI : (slicePick vx.toArray none (some 5) none).toList.length = (xs.take 5).length := by simpa using i9.length
  have hl5 : (slicePick vx.toArray none (some 5) none).toList.length ≤ 5 := by rw [hlI]; simp; omega
  have hLne : h₈.objs.size + 1 ≠ s.heap.objs.size := by have : s.heap.objs.size < h₈.objs.size := F₈.ns.lt; exact (Nat.ne_of_lt (Nat.lt_succ_of_lt this)).symm
  have hmem := (N₉ _ (List.Mem.head _)).1
  have hlist : h₉.IsList (h₈.objs.size + 1) (slicePick vx.toArray none (some 5) none).toList.toArray := by
    rw [Array.toArray_toList]; exact ⟨_, hmem, rfl, _, rfl⟩
  refine loop_list (fun i m₁ news₁ => ∃ (refs : List Value) (k : Nat) (rl : List (Addr × Obj)), news₁ = (D, listOf refs.toArray k) :: rl ∧ (∀ p ∈ rl, p.1 ≠ D) ∧ (∀ v ∈ refs, RowIn (i + 2) rl v) ∧ refs.length = 6 + i ∧ m₁ "rows" = some (.ref D))
    R'.hh hlist hLne F₉ (fun p hp => N₉ p (.tail _ hp)) ?j0 ?turn ?done
  case j0 =>
    refine ⟨[.ref l1, .ref l2, .ref l3, .ref l4, .ref l5, .ref l6], 0, _, rfl, ?_, ?_, rfl, if_pos rfl⟩
    · intro p hp e; have := hD p hp; rw [e] at this; exact absurd this (Nat.lt_irrefl _)
    · intro v hv
      simp only [List.mem_cons, List.not_mem_nil, or_false] at hv
      rcases hv with rfl | rfl | rfl | rfl | rfl | rfl
      · exact ⟨l1, _, [], 0, rfl, .tail _ (.tail _ (.tail _ (.tail _ (.tail _ (.head _))))), .nil, by simp, by simp⟩
      · exact ⟨l2, _, [97], 0, rfl, .tail _ (.tail _ (.tail _ (.tail _ (.head _)))), .cons _ _ .nil, by simp, by simp⟩
      · exact ⟨l3, _, [97, 32], 0, rfl, .tail _ (.tail _ (.tail _ (.head _))), .cons _ _ (.cons _ _ .nil), by simp, by simp⟩
      · exact ⟨l4, _, [97, 233], 0, rfl, .tail _ (.tail _ (.head _)), .cons _ _ (.cons _ _ .nil), by simp, by simp⟩
      · exact ⟨l5, _, [97, 48], 0, rfl, .tail _ (.head _), .cons _ _ (.cons _ _ .nil), by simp, by simp⟩
      · exact ⟨l6, _, [97, 65], 0, rfl, .head _, .cons _ _ (.cons _ _ .nil), by simp, by simp⟩
  case turn =>
    rintro I i v m₁ news₁ h₁ tk₁ own hi ⟨refs, k, rl, hnews, e1, e2, e3, e4⟩ hI hown hfp F₁ N₁
    subst hnews
    have hx := ints_at i9 hi
    obtain ⟨x, tx, hv, hxi⟩ := hx
    subst hv
    have hi5 : i < 5 := by
      by_cases q : i < 5
      · exact q
      · rw [List.getElem?_eq_none (by omega)] at hi; cases hi
    have hDI : D ≠ I := hI _ (.head _)
    have hpre : ∀ p ∈ own, p.1 ≠ D := by
      intro p hp
      rcases hfp p hp with e | e <;> rw [e]
      · exact fun q => hDI q.symm
      · exact fun q => hDlt q.symm
    have hDat : (D, listOf refs.toArray k) ∈ own ++ (D, listOf refs.toArray k) :: rl := List.mem_append.mpr (.inr (.head _))
    have hrows : h₁.IsList D refs.toArray := ⟨_, (N₁ _ hDat).1, rfl, _, rfl⟩
    have hsz : (refs.toArray.size : Int) = 6 + i := by simp [e3]
    have hnz : (refs.toArray.size : Int) ≠ 0 := by omega
    have hm1 : x.fmod (refs.toArray.size : Int) = x % (refs.toArray.size : Int) := Int.fmod_eq_emod_of_nonneg _ (by omega)
    have hm2 : 0 ≤ x % (refs.toArray.size : Int) := Int.emod_nonneg _ hnz
    have hm3 : x % (refs.toArray.size : Int) < refs.toArray.size := Int.emod_lt_of_pos _ (by omega)
    have hidx : (x.fmod (refs.toArray.size : Int)).toNat < refs.length := by
      have hsl : refs.toArray.size = refs.length := by simp
      rw [hm1]; omega
    have hob1 := e2 _ (List.getElem_mem hidx)
    obtain ⟨b, vs, os, kb, hb0, hbm, hbi, hbl, hbo⟩ := hob1
    have hget : refs.toArray[(x.fmod (refs.toArray.size : Int)).toNat]? = some (.ref b) := by rw [List.getElem?_toArray, List.getElem?_eq_getElem hidx, hb0]
    have hbat : ∀ {h' : Heap}, News s.heap s.heap.objs.size h' (own ++ (D, listOf refs.toArray k) :: rl) → h'.IsList b vs.toArray := fun N' => ⟨_, (N' _ (List.mem_append.mpr (.inr (.tail _ hbm)))).1, rfl, _, rfl⟩
    have hbs : (vs.toArray.size : Int) = os.length := by have := hbi.length; simp [zs] at this; simp [this]
    refine wpAny_execs_cons ?_
    refine wpAny_Assign_Name ?_
    refine Subscript_ ?_
    refine nmL F₁ ((if_neg (by decide)).trans e4) ?_
    refine wpAny_BinOp ?_
    refine nmL F₁ (if_pos rfl) ?_
    refine cB1 (nmB F₁ C rfl rfl ⟨rfl, ?_⟩)
    refine nmL F₁ ((if_neg (by decide)).trans e4) ?_
    refine call_len_list hrows (by omega) ?_
    refine PyProof.Rows.mod_int hnz ?_
    refine tail_any (ops := _) hrows.typeIs slot_list_getitem.lookup (wpAny_getItem_list (x := .ref b) hrows (by rw [hm1]; exact hm2) (by rw [hm1]; omega) hget ?_) (by with_unfolding_all rfl)
    refine stN F₁ N₁ ?_
    intro h₂ F₂' N₂
    have hob11 : ∃ m', (m' "rows" = some (.ref D) ∧ m' "x" = some (.int x tx) ∧ m' "earlier" = some (.ref b)) ∧ Fr s.heap s.heap.objs.size h₂ m' :=
      ⟨_, ⟨(if_neg (by decide)).trans ((if_neg (by decide)).trans e4), (if_neg (by decide)).trans (if_pos rfl), if_pos rfl⟩, F₂'⟩
    obtain ⟨m₂, ⟨a1, a2, a3⟩, F₂⟩ := hob11
    clear F₂'
    have hrows₂ : h₂.IsList D refs.toArray := ⟨_, (N₂ _ hDat).1, rfl, _, rfl⟩
    refine wpAny_execs_cons ?_
    refine wpAny_Assign_Name ?_
    refine wpAny_BinOp ?_
    refine nmL F₂ a2 ?_
    refine cB1 (nmB F₂ C rfl rfl ⟨rfl, ?_⟩)
    refine nmL F₂ a1 ?_
    refine call_len_list hrows₂ (by omega) ?_
    refine floordiv_int hnz ?_ (Or.inl (PyProof.noPylong_small (by omega)))
    refine stN F₂ N₂ ?_
    intro h₃ F₃' N₃
    have hob12 : ∃ m', (m' "rows" = some (.ref D) ∧ m' "x" = some (.int x tx) ∧ m' "earlier" = some (.ref b) ∧ ∃ q t, m' "rest" = some (.int q t)) ∧ Fr s.heap s.heap.objs.size h₃ m' :=
      ⟨_, ⟨(if_neg (by decide)).trans a1, (if_neg (by decide)).trans a2, (if_neg (by decide)).trans a3, _, _, if_pos rfl⟩, F₃'⟩
    obtain ⟨m₃, ⟨b1, b2, b3, q, tq, b4⟩, F₃⟩ := hob12
    clear F₃'
    refine wpAny_execs_cons ?_
    refine wpAny_Assign_Name ?_
    refine wpAny_BinOp ?_
    refine nmL F₃ b4 ?_
    refine wpAny_BinOp ?_
    refine cB1 (nmB F₃ C rfl rfl ⟨rfl, ?_⟩)
    refine nmL F₃ b3 ?_
    refine call_len_list (hbat N₃) (by omega) ?_
    refine wpAny_Constant_int ?_
    refine PyProof.Rows.add_int ?_
    refine PyProof.Rows.mod_int (by omega) ?_
    have hc1 : q.fmod ((vs.toArray.size : Int) + 1) = q % ((vs.toArray.size : Int) + 1) := Int.fmod_eq_emod_of_nonneg _ (by omega)
    have hc2 : 0 ≤ q.fmod ((vs.toArray.size : Int) + 1) := by rw [hc1]; exact Int.emod_nonneg _ (by omega)
    have hc3 : q.fmod ((vs.toArray.size : Int) + 1) < (vs.toArray.size : Int) + 1 := by rw [hc1]; exact Int.emod_lt_of_pos _ (by omega)
    refine stN F₃ N₃ ?_
    intro h₄ F₄' N₄
    have hob13 : ∃ m', (m' "rows" = some (.ref D) ∧ m' "earlier" = some (.ref b) ∧ (∃ t, m' "rest" = some (.int q t)) ∧ ∃ cut t, (0 ≤ cut ∧ cut < (vs.toArray.size : Int) + 1) ∧ m' "cut" = some (.int cut t)) ∧ Fr s.heap s.heap.objs.size h₄ m' :=
      ⟨_, ⟨(if_neg (by decide)).trans b1, (if_neg (by decide)).trans b3, ⟨_, (if_neg (by decide)).trans b4⟩, _, _, ⟨hc2, hc3⟩, if_pos rfl⟩, F₄'⟩
    obtain ⟨m₄, ⟨c1, c2, ⟨tr, c3⟩, cut, tc, ⟨hk2, hk3⟩, c4⟩, F₄⟩ := hob13
    clear F₄'
    refine wpAny_execs_cons ?_
    refine wpAny_Assign_Name ?_
    refine wpAny_BinOp ?_
    refine nmL F₄ c3 ?_
    refine wpAny_BinOp ?_
    refine cB1 (nmB F₄ C rfl rfl ⟨rfl, ?_⟩)
    refine nmL F₄ c2 ?_
    refine call_len_list (hbat N₄) (by omega) ?_
    refine wpAny_Constant_int ?_
    refine PyProof.Rows.add_int ?_
    refine floordiv_int (by omega) ?_ (Or.inl (PyProof.noPylong_small (by omega)))
    refine stN F₄ N₄ ?_
    intro h₅ F₅' N₅
    have hob14 : ∃ m', (m' "rows" = some (.ref D) ∧ m' "earlier" = some (.ref b) ∧ (∃ z t, m' "rest" = some (.int z t)) ∧ m' "cut" = some (.int cut tc)) ∧ Fr s.heap s.heap.objs.size h₅ m' :=
      ⟨_, ⟨(if_neg (by decide)).trans c1, (if_neg (by decide)).trans c2, ⟨_, _, if_pos rfl⟩, (if_neg (by decide)).trans c4⟩, F₅'⟩
    obtain ⟨m₅, ⟨d1, d2, ⟨z, tz, d3⟩, d4⟩, F₅⟩ := hob14
    clear F₅'
    refine wpAny_execs_cons ?_
    refine wpAny_Assign_Name ?_
    have hz16 : z.fmod 16 = z % 16 := Int.fmod_eq_emod_of_nonneg _ (by omega)
    refine wpAny_mono (Q := fun v s' => ∃ (o : Nat) (t : Tok) (tk' : Nat), v = .int (o : Int) t ∧ o < 256 ∧ s' = { s with heap := h₅, toks := tk' }) ?oct ?_ (fun _ _ e => e)
    case oct =>
      refine wpAny_IfExp ?_
      refine wpAny_isTrue_Compare1 ?_
      refine wpAny_BinOp ?_
      refine nmL F₅ d3 ?_
      refine wpAny_Constant_int ?_
      refine PyProof.Rows.mod_int (by decide) ?_
      refine wpAny_Constant_int ?_
      refine PyProof.Rows.gt_int ?_
      refine wpAny_truthy_bool ?_
      refine split_dec (fun hgt => ?_) (fun hgt => ?_)
      · refine wpAny_BinOp ?_
        refine wpAny_BinOp ?_
        refine nmL F₅ d3 ?_
        refine wpAny_Constant_int ?_
        refine floordiv_int (by decide) ?_ (Or.inl (PyProof.noPylong_small (by decide)))
        refine wpAny_Constant_int ?_
        refine PyProof.Rows.mod_int (by decide) ?_
        have e9 : (z.fdiv 16).fmod 256 = (z.fdiv 16) % 256 := Int.fmod_eq_emod_of_nonneg _ (by omega)
        have e10 : (z.fdiv 16).fmod 256 = (((z.fdiv 16).fmod 256).toNat : Int) := by rw [e9]; omega
        exact ⟨((z.fdiv 16).fmod 256).toNat, _, _, congrArg (fun i => Value.int i _) e10, by rw [e9]; omega, rfl⟩
      · refine Subscript_ ?_
        refine Constant_bytes ?_
        refine wpAny_BinOp ?_
        refine nmL F₅ d3 ?_
        refine wpAny_Constant_int ?_
        refine PyProof.Rows.mod_int (by decide) ?_
        have hlt : z.fmod 16 < 12 := by omega
        refine tail_any (ops := _) (typeIs_bytes _ _ _) FB.slot_bytes_getitem.lookup (PySem.W.getItem_bytes (by decide) (by rw [hz16]; omega) hlt ?_) (by with_unfolding_all rfl)
        exact ⟨_, _, _, rfl, UInt8.toNat_lt _, rfl⟩
    rintro v s' ⟨o, to, tk', hv, ho, hs'⟩
    subst hv
    subst hs'
    refine stN F₅ N₅ ?_
    intro h₆ F₆' N₆
    have hob15 : ∃ m', (m' "rows" = some (.ref D) ∧ m' "earlier" = some (.ref b) ∧ m' "octet" = some (.int (o : Int) to) ∧ m' "cut" = some (.int cut tc)) ∧ Fr s.heap s.heap.objs.size h₆ m' :=
      ⟨_, ⟨(if_neg (by decide)).trans d1, (if_neg (by decide)).trans d2, if_pos rfl, (if_neg (by decide)).trans d4⟩, F₆'⟩
    obtain ⟨m₆, ⟨f1, f2, f3, f4⟩, F₆⟩ := hob15
    clear F₆'
    have hcut : IntsAre (slicePick vs.toArray none (some cut) none).toList (zs (os.take cut.toNat)) := by rw [← zs_take]; exact slice_ints_uptoW hbi hk2
    have hos : (vs.toArray.size : Nat) = os.length := by omega
    have hnodes : ∀ p ∈ rl, p.1 ≠ D := e1
    refine wpAny_execs_cons ?_
    refine append_D (L := s.heap.objs.size) (h₀ := s.heap) (m := m₆) (pre := own) (post := rl) (nmL F₆ f1 ⟨rfl, (N₆ _ hDat).1, ?_⟩) hpre e1 (by simp; omega)
    refine wpAny_BinOp ?_
    refine Subscript_ ?_
    refine nmL F₆ f2 ?_
    refine wpAny_Slice ?_
    refine evalPart_none_step ?_
    refine evalPart_some_step ?_
    refine nmL F₆ f4 ?_
    refine evalPart_none_step ?_
    refine slice_list F₆ N₆ (hbat N₆) .none (.int cut tc) ?_ (by with_unfolding_all rfl) (by intro _; with_unfolding_all rfl) (by rw [hos]; unfold sizeLine; omega)
    intro h₇ F₇ N₇
    refine List_ ?_
    refine spliced_more ?_
    refine nmL F₇ f3 ?_
    refine spliced_none ?_
    with_reducible refine newList_K F₇ N₇ ?_ (sz1 _)
    intro l₈ h₈ F₈ N₈ _
    have hsl : h₈.IsList (h₆.objs.size + 1) (slicePick vs.toArray none (some cut) none) := ⟨_, (N₈ _ (.tail _ (.head _))).1, rfl, _, rfl⟩
    have hlo : h₈.IsList l₈ [Value.int (o : Int) to].toArray := ⟨_, (N₈ _ (.head _)).1, rfl, _, rfl⟩
    have hN8 : News s.heap s.heap.objs.size h₈ (own ++ (D, listOf refs.toArray k) :: rl) := fun p hp => N₈ p (.tail _ (.tail _ hp))
    have hszs : (slicePick vs.toArray none (some cut) none).size ≤ 10 := by have := slicePick_size_le vs.toArray none (some cut) none; omega
    with_reducible refine add_arrays F₈ hN8 hsl hlo ?_ (by simp; unfold sizeLine; omega)
    intro h₉ F₉ N₉
    have hnew : ∀ {c : Addr} {ob : Obj}, h₈.get? c = some ob → h₈.objs.size ≠ c := fun e => (Nat.ne_of_lt (Heap.lt_size e)).symm
    have hrow := (N₉ _ (List.Mem.head _))
    have hnD : h₈.objs.size ≠ D := hnew (hN8 _ hDat).1
    have hnI : h₈.objs.size ≠ I := by
      obtain ⟨oI, hoI⟩ := hown
      exact hnew (hN8 _ (List.mem_append.mpr (.inl hoI))).1
    have hrowi : IntsAre ((slicePick vs.toArray none (some cut) none).toList ++ [Value.int (o : Int) to]) (zs (os.take cut.toNat ++ [o])) := by rw [zs_snoc]; exact ints_push hcut _ _
    refine ⟨F₉, (fun p hp => N₉ p (.tail _ hp)), ?_⟩
    intro h' F' N' hsb
    refine wpAny_execs_nil ?_
    refine ⟨h', _, m₆, (D, listOf (refs.toArray.push (.ref h₈.objs.size)) (k + 1)) :: (h₈.objs.size, listOf ((slicePick vs.toArray none (some cut) none).toList ++ [Value.int (o : Int) to]).toArray 0) :: rl, rfl, F', ?_, ?_, refs ++ [.ref h₈.objs.size], k + 1, (h₈.objs.size, listOf ((slicePick vs.toArray none (some cut) none).toList ++ [Value.int (o : Int) to]).toArray 0) :: rl, ?_, ?_, ?_, ?_, f1⟩
    · intro p hp
      rcases List.mem_append.mp hp with q | q
      · exact N' p (List.mem_append.mpr (.inl q))
      · rcases List.mem_cons.mp q with q | q
        · exact N' p (List.mem_append.mpr (.inr (q ▸ .head _)))
        · rcases List.mem_cons.mp q with q | q
          · rw [q]
            exact ⟨(hsb.2 _ hnD).trans hrow.1, hrow.2⟩
          · exact N' p (List.mem_append.mpr (.inr (.tail _ q)))
    · intro p hp
      rcases List.mem_cons.mp hp with q | q
      · rw [q]; exact hDI
      · rcases List.mem_cons.mp q with q | q
        · rw [q]; exact hnI
        · exact hI p (.tail _ q)
    · simp
    · intro p hp
      rcases List.mem_cons.mp hp with q | q
      · rw [q]; exact hnD
      · exact e1 p q
    · intro v hv
      rcases List.mem_append.mp hv with q | q
      · exact (e2 v q).mono (by omega) (fun p hp => .tail _ hp)
      · rw [List.mem_singleton.mp q]
        refine ⟨_, _, os.take cut.toNat ++ [o], 0, rfl, .head _, hrowi, ?_, ?_⟩
        · simp; omega
        · intro x hx
          rcases List.mem_append.mp hx with q | q
          · exact hbo x (List.mem_of_mem_take q)
          · rw [List.mem_singleton.mp q]; exact ho
    · simp [e3]; omega
  case done =>
    rintro h₄ tk₄ m₄ news₄ F₄ N₄ ⟨refs, k, rl, hnews, e1, e2, e3, e4⟩
    subst hnews
    have hfin : ∀ v ∈ refs, GoodRow s.heap h₄ v := by
      intro v hv
      have hob := e2 v hv
      obtain ⟨b, vs, os, k', hvb, hm, hi, hl, ho⟩ := hob
      exact ⟨b, vs, os, hvb, ⟨_, (N₄ _ (.tail _ hm)).1, rfl, _, rfl⟩, hi, by omega, ho, (N₄ _ (.tail _ hm)).2.2⟩
    have hD₄ : h₄.IsList D refs.toArray := ⟨_, (N₄ _ (List.Mem.head _)).1, rfl, _, rfl⟩
    refine wpAny_execs_cons ?_
    refine wpAny_Return_some ?_
    refine nmL F₄ e4 ?_
    exact h D refs _ ⟨h₄, _, rfl, F₄.keep⟩ hD₄ hfin (by omega) (by omega) (N₄ _ (List.Mem.head _)).2.2
end Mine
end
section
open PySem PySem.W PyProof.Rows PySem.Calls
open PySem.Builtin
set_option maxRecDepth 100000
set_option maxHeartbeats 400000
namespace Mine
theorem forIn_steps {β : Type} (f : Nat → β → Sem (ForInStep β)) (g : Nat → β) : ∀ (k i : Nat), (∀ j, i ≤ j → j < i + k → f j (g j) = pure (.yield (g (j + 1)))) → forIn (List.range' i k) (g i) f = (pure (g (i + k)) : Sem β)
  | 0, i, _ => by simp
  | k + 1, i, h => by
    rw [List.range'_succ, List.forIn_cons, h i (Nat.le_refl _) (by omega)]
    show forIn (List.range' (i + 1) k) (g (i + 1)) f = _
    rw [forIn_steps f g k (i + 1) (fun j h1 h2 => h j (by omega) (by omega))]
    rw [show i + 1 + k = i + (k + 1) from by omega]
theorem latin_run (id : String) (l : List UInt8) (hl : l.length ≤ 1000) : _codecs.runDecoder id _codecs.latin1Decoder none true l.toArray 0 [] = pure ((l.map (·.toNat)).toArray, l.length) := by
  unfold _codecs.runDecoder
  simp only []
  rw [KPc.range_list]
  refine Eq.trans (congrArg (fun m => m >>= fun r : Nat × Array Nat × _codecs.Faults => (pure (r.snd.fst, r.fst) : Sem (Array Nat × Nat))) (forIn_steps _ (fun j => (j, ((l.take j).map (·.toNat)).toArray, ({} : _codecs.Faults))) l.toArray.size 0 ?_)) ?_
  · intro j _ h2
    have hj : j < l.length := by simpa using h2
    have hs : ¬ (((l.take j).map (·.toNat)).toArray.size > sizeLine) := by simp; unfold sizeLine; omega
    show (if ((l.take j).map (·.toNat)).toArray.size > sizeLine then _ else _) = _
    rw [if_neg hs]
    show (if j ≥ l.toArray.size then _ else _) = _
    rw [if_neg (by simp; omega)]
    have e : ((l.take (j + 1)).map (·.toNat)).toArray = ((l.take j).map (·.toNat)).toArray ++ #[(l.toArray.getD j 0).toNat] := by
      have e' : l.take (j + 1) = l.take j ++ [l[j]] := by rw [List.take_add_one, List.getElem?_eq_getElem hj]; rfl
      have e'' : l.toArray.getD j 0 = l[j] := by simp [Array.getD, hj]
      rw [e', e'', List.map_append, List.map_singleton]
      exact (List.append_toArray _ _).symm
    show (pure (ForInStep.yield (j + 1, ((l.take j).map (·.toNat)).toArray ++ #[(l.toArray.getD j 0).toNat], ({} : _codecs.Faults))) : Sem _) = _
    rw [← e]
  · show (pure (((l.take (0 + l.toArray.size)).map (·.toNat)).toArray, 0 + l.toArray.size) : Sem (Array Nat × Nat)) = _
    rw [Nat.zero_add, List.size_toArray, List.take_length]
theorem road_l {id : String} {b : Array UInt8} : _codecs.decodeRoad id b (PySem.Str.ofString "latin1") none [] = (_codecs.runDecoder id _codecs.latin1Decoder none true b 0 [] >>= fun r => mkStr ⟨r.1⟩) := by kernel_rfl
theorem meets_text_l {t t1 t2 : Tok} {d : PySem.Str} (l : List UInt8) (hl : l.length ≤ 1000) :
    Meets («_codecs.decode.text» ⟨[.bytes l.toArray t, .str (PySem.Str.ofString "latin1") t1, .none, .str d t2], []⟩) (fun _ R s => R (.ok (.ret (.str (S (l.map (·.toNat))) s.toks))) { s with toks := s.toks + 1 }) := by
  refine .of_wp fun prog w A R s h => ?_
  show wpAny _ _ (Bytes.bytesLike _ (.bytes l.toArray t) >>= fun r => _) _ _ s
  refine wpAny_bind (wpAny_of_eq KBd.like_eq ?_)
  refine wpAny_bind (wpAny_of_eq KBd.held_eq ?_)
  show wpAny _ _ (_codecs.decodeRoad _ l.toArray (PySem.Str.ofString "latin1") none [] >>= fun v => _) _ _ s
  rw [road_l, latin_run _ l hl]
  refine wpAny_bind (wpAny_bind (wpAny_pure ?_))
  refine wpAny_mkStr (x := S (l.map (·.toNat))) ?_ (by rw [S_length]; simp; unfold sizeLine; omega)
  exact wpAny_pure ⟨_, rfl, h⟩
theorem entry_l {c : UInt8} {cs : List UInt8} {t u : Tok} : «bytes.decode» ⟨[.bytes (c :: cs).toArray t, .str (PySem.Str.ofString "latin1") u], []⟩ = (mkStr (PySem.Str.ofString "utf-8") >>= fun _ => mkStr (PySem.Str.ofString "latin1") >>= fun e => mkStr (PySem.Str.ofString "bytes.decode") >>= fun d =>
    call (.builtin "_codecs.decode.text") [.bytes (c :: cs).toArray t, e, .none, d] >>= fun v => ret v) := by kernel_rfl
theorem meets_decode_l {c : UInt8} {cs : List UInt8} {t u : Tok} (hl : (c :: cs).length ≤ 1000) :
    Meets («bytes.decode» ⟨[.bytes (c :: cs).toArray t, .str (PySem.Str.ofString "latin1") u], []⟩) (fun _ R s => ∀ t' k, R (.ok (.ret (.str (S ((c :: cs).map (·.toNat))) t'))) { s with toks := k }) := by
  refine .of_wp fun prog w A R s h => ?_
  rw [entry_l]
  refine wpAny_bind (wpAny_mkStr ?_ (by decide))
  refine wpAny_bind (wpAny_mkStr ?_ (by decide))
  refine wpAny_bind (wpAny_mkStr ?_ (by decide))
  exact wpAny_bind (call_function_meets KBd.kind_text KBd.plain_text KBd.entry_text (KBd.args_text _ _ _ _) (meets_text_l _ hl) (wpAny_pure ⟨_, rfl, h _ _⟩))
theorem args_dec2 (a b : Value) : argsOk "bytes.decode" ⟨[a, b], []⟩ := by unfold argsOk; kernel_rfl
theorem decode_l {w : World} {A : Around} {s : Shared} {E : Value → Shared → Prop} {Q : Value → Shared → Prop} {c : UInt8} {cs : List UInt8} {t u : Tok} (hl : (c :: cs).length ≤ 1000)
    (h : ∀ t' k, Q (.str (S ((c :: cs).map (·.toNat))) t') { s with toks := k }) : wpAny (model PR w) A (call (.builtin "bytes.decode") [.bytes (c :: cs).toArray t, .str (PySem.Str.ofString "latin1") u]) Q E s :=
  call_meets FB.slot_bytes_decode (typeIs_bytes _ _ _) FB.entry_bytes_decode (args_dec2 _ _) (meets_decode_l hl) h
end Mine
end
section
open PySem PySem.W PyProof.Rows PySem.Calls
open PySem.Builtin
set_option maxRecDepth 100000
set_option maxHeartbeats 400000
namespace Mine
def enc1 (n : Nat) : List Nat := if n = 32 then [95] else if safeN n then [n] else [61, fig (n / 16), fig (n % 16)]
def chk (items : List Value) : Bool := (List.range 256).all fun n => match items[n]? with | some (.str x _) => x == S (enc1 n) | _ => false
theorem tbl29 (w : World) : ∃ (items : List Value) (k : Nat), (KF w).lookup 29 = some (listOf items.toArray k) ∧ chk items = true := ⟨_, _, rfl, by kernel_rfl⟩
theorem chk_at {items : List Value} (h : chk items = true) {n : Nat} (hn : n < 256) : ∃ t, items[n]? = some (.str (S (enc1 n)) t) := by
  have h1 := List.all_eq_true.mp h n (List.mem_range.mpr hn)
  revert h1
  cases items[n]? with
  | none => intro h1; cases h1
  | some v =>
    cases v with
    | str x t => intro h1; exact ⟨t, by rw [eq_of_beq h1]⟩
    | _ => intro h1; cases h1
theorem enc1_len (n : Nat) : (enc1 n).length ≤ 3 := by unfold enc1; split <;> (try split) <;> simp
section
variable {w : World} {mg mb : Str → Option Value} {A : Around} {s : Shared} {E : Value → Shared → Prop}
theorem table_look (C : Cx w mg mb s.heap) {c : Nat} (hc : c < 256) {Q : Str.Mapped → Shared → Prop} (h : ∀ tk, Q (.text (S (enc1 c))) { s with toks := tk }) : wpAny (model PR w) A (Str.tableLookup (.ref 29) c) Q E s := by
  obtain ⟨items, k, hK, hchk⟩ := tbl29 w
  obtain ⟨t, ht⟩ := chk_at hchk hc
  have hl : s.heap.IsList 29 items.toArray := ⟨_, C.X 29 _ hK, rfl, _, rfl⟩
  unfold Str.tableLookup
  refine wpAny_bind (wpAny_attempt (wpAny_bind (wpAny_mkInt ?_)))
  refine wpAny_getItem_list (x := .str (S (enc1 c)) t) hl (by omega) (by omega) (by simpa using ht) ?_
  show wpAny _ _ (asInt? (Value.str (S (enc1 c)) t) >>= _) _ _ _
  refine wpAny_bind (wpAny_pure ?_)
  show wpAny _ _ (asStr? (Value.str (S (enc1 c)) t) >>= _) _ _ _
  refine wpAny_bind (wpAny_pure ?_)
  exact wpAny_pure (h _)
theorem enc1_cases {c : Nat} (hc : c < 256) : (∃ d, enc1 c = [d] ∧ d < 128) ∨ ∃ a b e, enc1 c = [a, b, e] := by
  unfold enc1
  split
  · exact .inl ⟨95, rfl, by decide⟩
  · split
    · rename_i h
      refine .inl ⟨c, rfl, ?_⟩
      simp [safeN] at h
      omega
    · exact .inr ⟨_, _, _, rfl⟩
def PiecesOk (pieces : List Str) (pre : List Nat) : Prop := pieces.reverse.foldl (fun acc p => acc ++ p.cps) #[] = (pre.flatMap enc1).toArray
theorem PiecesOk.snoc {pieces : List Str} {pre : List Nat} (h : PiecesOk pieces pre) {c : Nat} {p : Str} (hp : p = S (enc1 c)) : PiecesOk (p :: pieces) (pre ++ [c]) := by
  unfold PiecesOk at *
  rw [List.reverse_cons, List.foldl_append, h, List.foldl_cons, List.foldl_nil, hp, List.flatMap_append, List.flatMap_singleton]
  simp [S]
def KnownOk (known : List (Nat × Option Nat)) : Prop := ∀ c a, known.lookup c = some a → ∃ d, a = some d ∧ enc1 c = [d]
theorem translate_l (C : Cx w mg mb s.heap) {l : List Nat} {t : Tok} (hne : l ≠ []) (hl : l.length ≤ 1000) (h256 : ∀ c ∈ l, c < 256) {Q : Fin → Shared → Prop}
    (h : ∀ t' k, Q (.done (.ret (.str (S (l.flatMap enc1)) t'))) { s with toks := k }) : wpAny (model PR w) A («str.translate» ⟨[.str (S l) t, .ref 29], []⟩) Q E s := by
  unfold «str.translate»
  refine wpAny_bind (m := Builtin.Str.strOneArg "translate" _) (wpAny_pure ?_)
  simp only []
  rw [if_neg (by rw [S_length]; cases l with | nil => exact absurd rfl hne | cons _ _ => simp)]
  refine wpAny_bind (forIn_array_ _ (fun (rest : List Nat) (b : List PySem.Str × Nat × Bool × List (Nat × Option Nat) × Bool) (s' : Shared) => ∃ pre tk, l = pre ++ rest ∧ s' = { s with toks := tk } ∧ b.2.2.2.2 = false ∧ KnownOk b.2.2.2.1 ∧ b.2.1 ≤ 3 * pre.length ∧ PiecesOk b.1 pre) _ ?turn ?fin (S l).cps _ ⟨[], s.toks, by simp [S], rfl, rfl, (fun _ _ e => by cases e), by simp, (rfl : PiecesOk [] [])⟩)
  case turn =>
    rintro c rest ⟨pieces, total, fast, known, drop⟩ s' ⟨pre, tk, el, es, ed, ek, et, ep⟩
    subst es
    have hpl : pre.length + rest.length + 1 = l.length := by rw [el]; simp; omega
    have hc : c < 256 := h256 c (by rw [el]; simp)
    have C' : Cx w mg mb ({ s with toks := tk } : Shared).heap := C
    simp only at ed ek et ep
    subst ed
    have hshort : ¬ (Str.tooLong total = true) := KPc.short (by omega)
    simp only [if_neg hshort]
    have next : ∀ (p : PySem.Str) (total' : Nat) (fast' : Bool) (known' : List (Nat × Option Nat)) (tk' : Nat), p = S (enc1 c) → total' ≤ total + 3 → KnownOk known' →
        ∃ pre tk, l = pre ++ rest ∧ ({ s with toks := tk' } : Shared) = { s with toks := tk } ∧ (p :: pieces, total', fast', known', false).2.2.2.2 = false ∧ KnownOk (p :: pieces, total', fast', known', false).2.2.2.1 ∧ (p :: pieces, total', fast', known', false).2.1 ≤ 3 * pre.length ∧ PiecesOk (p :: pieces, total', fast', known', false).1 pre := by
      intro p total' fast' known' tk' hp ht hk
      exact ⟨pre ++ [c], tk', by rw [el]; simp, rfl, rfl, hk, by simp; omega, ep.snoc hp⟩
    cases fast with
    | false =>
      simp only [Bool.false_eq_true, if_false]
      refine wpAny_bind (table_look C' hc fun tk' => ?_)
      refine wpAny_pure ?_
      exact next _ _ _ _ _ rfl (by rw [S_length]; have := enc1_len c; omega) ek
    | true =>
      simp only [if_true, Bool.false_eq_true, if_false]
      cases hk : known.lookup c with
      | some a =>
        obtain ⟨d, ha, hd⟩ := ek c a hk
        subst ha
        refine wpAny_bind (wpAny_pure ?_)
        refine wpAny_pure ?_
        exact next _ _ _ _ _ (by rw [hd]; rfl) (by omega) ek
      | none =>
        refine wpAny_bind (table_look C' hc fun tk' => ?_)
        have hcs := enc1_cases hc
        rcases hcs with ⟨d, hd, hlt⟩ | ⟨a, b, e, hd⟩
        · have hif : ((S (enc1 c)).length == 1 && (S (enc1 c)).cps.all (fun x => decide (x < 128))) = true := by rw [hd]; simp [S, PySem.Str.length, hlt]
          have h0 : (S (enc1 c)).cps[0]? = some d := by rw [hd]; rfl
          simp only [hif, if_true, h0]
          refine wpAny_bind (wpAny_pure ?_)
          refine wpAny_pure ?_
          refine next _ _ _ _ _ (by rw [hd]; rfl) (by omega) ?_
          intro c' a' hl'
          rw [List.lookup_cons] at hl'
          by_cases hcc : (c' == c) = true
          · rw [hcc] at hl'
            have := eq_of_beq hcc
            subst this
            exact ⟨d, (Option.some.inj hl').symm, hd⟩
          · have hcf : (c' == c) = false := by simpa using hcc
            rw [hcf] at hl'
            exact ek c' a' hl'
        · have hif : ¬ (((S (enc1 c)).length == 1 && (S (enc1 c)).cps.all (fun x => decide (x < 128))) = true) := by rw [hd]; simp [S, PySem.Str.length]
          simp only [if_neg hif]
          refine wpAny_bind (wpAny_pure ?_)
          refine wpAny_bind (wpAny_rule ?_)
          refine wpAny_bind (table_look (s := { s with toks := tk' }) C hc fun tk'' => ?_)
          refine wpAny_pure ?_
          exact next _ _ _ _ _ rfl (by rw [S_length]; have := enc1_len c; omega) ek
  case fin =>
    rintro ⟨pieces, total, fast, known, drop⟩ s' ⟨pre, tk, el, es, ed, ek, et, ep⟩
    subst es
    simp only at et ep
    have hpre : pre = l := by simpa using el.symm
    subst hpre
    have hshort : ¬ (Str.tooLong total = true) := KPc.short (by omega)
    simp only [if_neg hshort]
    have hS : (⟨pieces.reverse.foldl (fun acc p => acc ++ p.cps) #[]⟩ : PySem.Str) = S (pre.flatMap enc1) := by
      unfold PiecesOk at ep; rw [ep]; rfl
    rw [hS]
    have hlen : (pre.flatMap enc1).length ≤ 3 * pre.length := by
      clear el ep hS h h256 hne
      clear et hl
      induction pre with
      | nil => simp
      | cons x xs ih => have := enc1_len x; simp only [List.flatMap_cons, List.length_append, List.length_cons]; omega
    refine wpAny_bind (wpAny_mkStr ?_ (by rw [S_length]; unfold sizeLine; omega))
    exact wpAny_pure (h _ _)
theorem translate_c (C : Cx w mg mb s.heap) {l : List Nat} {t : Tok} (hne : l ≠ []) (hl : l.length ≤ 1000) (h256 : ∀ c ∈ l, c < 256) {Q : Value → Shared → Prop}
    (h : ∀ t' k, Q (.str (S (l.flatMap enc1)) t') { s with toks := k }) : wpAny (model PR w) A (call (.builtin "str.translate") [.str (S l) t, .ref 29]) Q E s := by
  refine wpAny_call_entry F.slot_str_translate (typeIs_str s (S l) t) F.entry_str_translate ?_ (F.args_str_translate_2 _ _)
  exact translate_l C hne hl h256 fun t' k => ⟨_, rfl, h t' k⟩
end
end Mine
end
section
open PySem PySem.W PyProof.Rows PySem.Calls
set_option maxRecDepth 100000
set_option maxHeartbeats 1000000
namespace Mine
section
variable {w : World} {mg mb : Str → Option Value} {A : Around} {s : Shared} {E : Value → Shared → Prop} {Q : Value → Shared → Prop} {env : Env}
theorem call_own_d {n : Nat} {f : Addr} {args : List Value} {name : Str} {params : Arguments} {body : List Stmt} {scope : Scope} {dV kV doc pm cd ct oc : Value} {an od : Option Addr} {osl : Array (Option Value)} {binds : List (Str × Value)}
    (C : Cx w mg mb s.heap) (R : Rm (n + 1) A) (ho : (KF w).lookup f = some ⟨oc, od, .func (fnOf name name params body scope dV kV doc pm an cd ct), osl⟩) (hcd : codeIn (KF w) cd name = true)
    (hbind : BindsTo s (fnOf name name params body scope dV kV doc pm an cd ct) ⟨args, []⟩ binds)
    (hloc : (binds.all fun x => decide (scope.names.lookup x.1 = some .local)) = true)
    (hco : scope.isCoroutine = false) (hgen : scope.isGenerator = false) (hk : scope.kind = .function)
    (hcell : ∀ x ∈ scope.names, x.2 ≠ .cell)
    (h : ∀ h₁ tk, Fr s.heap s.heap.objs.size h₁ (fun x => binds.reverse.lookup x) → Rm n (A.deeper (envOf name scope s.heap.objs.size f cd)) →
      wpAny (model PR w) (A.deeper (envOf name scope s.heap.objs.size f cd)) (execs body (envOf name scope s.heap.objs.size f cd))
        (fun f s' => Q (match f with | .ret v => v | _ => .none) s') (fun _ _ => False) { s with heap := h₁, toks := tk }) :
    wpAny (model PR w) A (call (.ref f) args) Q E s :=
  wpAny_call (codeAny_call_def (fd := fnOf name name params body scope dV kV doc pm an cd ct) (Nat.lt_of_le_of_lt (Nat.le_add_right _ _) R.d) (C.X f _ ho) rfl C.nolimit (codeRec_of C.X hcd) rfl hbind hcell (locs hloc)
    (fun h₁ hns hk₁ => wpAny_mono (h h₁ _ ⟨hns, hk₁, Nat.le_refl _⟩ (R.deeper _)) (fun _ _ x => x) (fun _ _ x => x.elim)) hco hgen hk)
theorem fv_str {value : Expr} {pos : Pos} (h : wpAny (model PR w) A (eval value env) (fun v s₁ => ∃ l t, v = .str (S l) t ∧ l.length ≤ 16777216 ∧ ∀ t' tk, Q (.str (S l) t') { s₁ with toks := tk }) E s) :
    wpAny (model PR w) A (eval (.FormattedValue value 115 none pos) env) Q E s := by
  show wpAny _ _ (do let v ← eval value env; standAt pos; formatted pos (← holding [v] (converted 115 v)) (evalOpt none env)) Q E s
  refine wpAny_bind (wpAny_mono h ?_ fun _ _ x => x)
  rintro v s₁ ⟨l, t, rfl, hl, hQ⟩
  refine wpAny_bind (wpAny_standAt ?_)
  have hsz : (S l).length ≤ sizeLine := by rw [S_length]; exact hl
  have fin : ∀ t' tk, wpAny (model PR w) A (formatted pos (.str (S l) t') (evalOpt none env)) Q E { s₁ with toks := tk } := by
    intro t' tk
    show wpAny _ _ (formatField (.str (S l) t') Str.empty) Q E _
    exact wpAny_formatField_str (hQ _ _) (hQ _ _) hsz
  refine wpAny_bind (wpAny_holding ?_)
  show wpAny _ _ (habitSame "fstring-hands-on-the-str" (.str (S l) t)) _ E s₁
  exact wpAny_habitSame_str (fin _ _) (fin _ _) hsz
theorem jp_each {e : Expr} {rest : List Expr} {out : List Nat} (h : wpAny (model PR w) A (eval e env) (fun v s₁ => ∃ l t, v = .str (S l) t ∧ out.length + l.length ≤ 16777216 ∧ wpAny (model PR w) A (joinParts (S (out ++ l)) (evalEach rest env)) Q E s₁) E s) :
    wpAny (model PR w) A (joinParts (S out) (evalEach (e :: rest) env)) Q E s := by
  show wpAny _ _ (joinParts (S out) (eval e env :: evalEach rest env)) Q E s
  unfold joinParts
  refine wpAny_bind (wpAny_mono h ?_ fun _ _ x => x)
  rintro v s₁ ⟨l, t, rfl, hl, hQ⟩
  refine wpAny_bind (m := asStr? _) (wpAny_pure ?_)
  show wpAny _ _ (if (S out).length + (S l).length > sizeLine then _ else _) Q E s₁
  rw [if_neg (by rw [S_length, S_length]; exact Nat.not_lt.mpr hl), S_append]
  exact hQ
theorem jp_nil {out : List Nat} (h : ∀ t tk, Q (.str (S out) t) { s with toks := tk }) (hl : out.length ≤ 16777216) : wpAny (model PR w) A (joinParts (S out) (evalEach [] env)) Q E s := by
  show wpAny _ _ (mkStr (S out)) Q E s
  exact wpAny_mkStr (h _ _) (by rw [S_length]; exact hl)
theorem joined {v₁ v₂ : Expr} {rest : List Expr} {pos : Pos} (h : wpAny (model PR w) A (joinParts (S []) (evalEach (v₁ :: v₂ :: rest) env)) Q E s) : wpAny (model PR w) A (eval (.JoinedStr (v₁ :: v₂ :: rest) pos) env) Q E s := h
end
end Mine
end
section
open PySem PySem.W PyProof.Rows PySem.Calls
set_option maxRecDepth 100000
set_option maxHeartbeats 1000000
namespace Mine
def encW (cs os : List Nat) : List Nat := if os = [] then [] else [61, 63] ++ cs ++ [63, 113, 63] ++ os.flatMap enc1 ++ [63, 61]
theorem encF_len (os : List Nat) : (os.flatMap enc1).length ≤ 3 * os.length := by
  induction os with
  | nil => simp
  | cons x xs ih => have := enc1_len x; simp only [List.flatMap_cons, List.length_append, List.length_cons]; omega
theorem no_ref {x : Str} {t : Tok} {s : Shared} : ∀ a, Value.str x t = .ref a → ∃ o, s.heap.get? a = some o ∧ o.dict = none := fun _ e => nomatch e
theorem gm_translate {w : World} {A : Around} {s : Shared} {E : Value → Shared → Prop} {Q : Value × List Value → Shared → Prop} {x : Str} {t : Tok} {pl : Sem Bool} (h : Q (.builtin "str.translate", [.str x t]) s) :
    wpAny (model PR w) A (getMethod (.str x t) (PySem.Str.ofString "translate") pl) Q E s := by
  refine PySem.getMethod_builtin (T := "str") (id := "str.translate") ?_ ?_ ?_ ?_ ?_ ?_
  · exact typeIs_str _ _ _
  · exact PySem.F.plainAttrs_str
  · exact PySem.F.slot_str_translate
  · exact PySem.F.type_str_translate
  · exact no_ref
  · exact h
theorem c_encode {w : World} {mg mb : Str → Option Value} {A : Around} {s : Shared} {E : Value → Shared → Prop} {Q : Value → Shared → Prop}
    (C : Cx w mg mb s.heap) (R : Rm 5 A) {bs : List UInt8} {cs : List Nat} {tb tc : Tok} (lb : bs.length ≤ 300) (lc : cs.length < 1000)
    (h : ∀ t s', Keeps s s' → Q (.str (S (encW cs (bs.map (·.toNat)))) t) s') :
    wpAny (model PR w) A (call (.ref 45) [.bytes bs.toArray tb, .str (S cs) tc]) Q E s := by
  refine call_own_d C R rfl rfl (binds := [(Str.ofString "header_bytes", .bytes bs.toArray tb), (Str.ofString "charset", .str (S cs) tc)]) (binds_K C.X rfl rfl rfl rfl rfl) rfl rfl rfl rfl (by decide) ?_
  intro h₁ tk F R'
  have hm1 : (fun x => List.lookup x ([(Str.ofString "header_bytes", Value.bytes bs.toArray tb), (Str.ofString "charset", Value.str (S cs) tc)] : List (Str × Value)).reverse) "header_bytes" = some (.bytes bs.toArray tb) := rfl
  have hm2 : (fun x => List.lookup x ([(Str.ofString "header_bytes", Value.bytes bs.toArray tb), (Str.ofString "charset", Value.str (S cs) tc)] : List (Str × Value)).reverse) "charset" = some (.str (S cs) tc) := rfl
  generalize hm : (fun x => List.lookup x ([(Str.ofString "header_bytes", Value.bytes bs.toArray tb), (Str.ofString "charset", Value.str (S cs) tc)] : List (Str × Value)).reverse) = m at F hm1 hm2
  have N : News s.heap s.heap.objs.size h₁ [] := News.nil
  refine wpAny_execs_cons ?_
  refine wpAny_If ?_
  refine isTrue_not ?_
  refine isTrue_plain ?_
  refine nmL F hm1 ?_
  refine truthy_bytes (by simp; omega) ?_
  cases bs with
  | nil =>
    refine wpAny_execs_cons ?_
    refine wpAny_Return_some ?_
    refine constS [] (by decide +kernel) ?_
    exact h _ _ ⟨h₁, _, rfl, F.keep⟩
  | cons c rest =>
    refine wpAny_execs_nil ?_
    refine wpAny_execs_cons ?_
    refine wpAny_Assign_Name ?_
    have h256 : ∀ x ∈ (c :: rest).map (·.toNat), x < 256 := by
      intro x hx
      obtain ⟨b, _, rfl⟩ := List.mem_map.mp hx
      exact UInt8.toNat_lt b
    refine MethodCall_ ?_
    refine MethodCall_ ?_
    refine nmL F hm1 ?_
    refine KBd.method ?_
    refine callWith_method1 ?_
    refine spliced_more ?_
    refine wpAny_Constant_str ?_
    refine spliced_none ?_
    refine decode_l (by simp at lb ⊢; omega) ?_
    intro t₂ k₂
    refine gm_translate ?_
    refine callWith_method1 ?_
    refine spliced_more ?_
    refine nmK F C rfl ?_
    refine spliced_none ?_
    refine translate_c (C.keeps F.keep) (by simp) (by simp at lb ⊢; omega) h256 ?_
    intro t₃ k₃
    refine stN F N ?_
    intro h₄ F₄ N₄
    have hob : ∃ m', (m' "charset" = some (.str (S cs) tc) ∧ ∃ t, m' "encoded" = some (.str (S (((c :: rest).map (·.toNat)).flatMap enc1)) t)) ∧ Fr s.heap s.heap.objs.size h₄ m' :=
      ⟨_, ⟨(if_neg (by decide)).trans hm2, _, if_pos rfl⟩, F₄⟩
    obtain ⟨m₅, ⟨e1, te, e2⟩, F₅⟩ := hob
    have hel := encF_len ((c :: rest).map (·.toNat))
    rw [List.length_map] at hel
    refine wpAny_execs_cons ?_
    refine wpAny_Return_some ?_
    refine joined ?_
    refine jp_each ?_
    refine constS [61, 63] (by decide +kernel) ?_
    refine ⟨_, _, rfl, by decide, ?_⟩
    refine jp_each ?_
    refine fv_str ?_
    refine nmL F₅ e1 ?_
    refine ⟨_, _, rfl, by omega, ?_⟩
    intro t₆ k₆
    refine ⟨_, _, rfl, by simp only [List.length_append, List.length_cons, List.length_nil]; omega, ?_⟩
    refine jp_each ?_
    refine constS [63, 113, 63] (by decide +kernel) ?_
    refine ⟨_, _, rfl, by simp only [List.length_append, List.length_cons, List.length_nil]; omega, ?_⟩
    refine jp_each ?_
    refine fv_str ?_
    refine nmL F₅ e2 ?_
    refine ⟨_, _, rfl, by omega, ?_⟩
    intro t₇ k₇
    refine ⟨_, _, rfl, by simp only [List.length_append, List.length_cons, List.length_nil]; omega, ?_⟩
    refine jp_each ?_
    refine constS [63, 61] (by decide +kernel) ?_
    refine ⟨_, _, rfl, by simp only [List.length_append, List.length_cons, List.length_nil]; omega, ?_⟩
    refine jp_nil ?_ (by simp only [List.length_append, List.length_cons, List.length_nil]; omega)
    intro t₈ k₈
    have := h t₈ _ ⟨h₄, k₈, rfl, F₅.keep⟩
    unfold encW at this
    rw [if_neg (by simp)] at this
    exact this
end Mine
end
section
open PySem PySem.W PyProof.Rows PySem.Calls
set_option maxRecDepth 100000
set_option maxHeartbeats 1000000
namespace Mine
section
variable {w : World} {A : Around} {s : Shared} {E : Value → Shared → Prop}
/-- the next value of a dict's values -/
theorem vnext_item {it d : Addr} {i ep : Nat} {es : Array DictEntry} {od : Obj} {e : DictEntry} {Q : Option Value → Shared → Prop} (hit : s.heap.IsValIter it d i es.size ep)
    (hod : s.heap.get? d = some od) (hdd : od.data = .dict es ep) (hx : es[i]? = some e)
    (hQ : ∀ h', h'.IsValIter it d (i + 1) es.size ep → Heap.SameBut it s.heap h' → Q (some e.val) { s with heap := h' }) :
    wpAny (model PR w) A (callSpecial? (.ref it) "__next__") Q E s := by
  obtain ⟨o, ho, hc, hd⟩ := id hit
  have hlt : i < es.size := by
    by_cases q : i < es.size
    · exact q
    · rw [Array.getElem?_eq_none (by omega)] at hx; cases hx
  have hown : Builtin.Dict_items.ownsTuple "dict_valueiterator" = false := by decide
  refine wpAny_callSpecial?_slot (name := Str.ofString "__next__") hit.typeIs F.slot_dict_valueiterator_next (wpAny_call_entry F.slot_dict_valueiterator_next hit.typeIs F.entry_dict_valueiterator_next ?_ (F.args_dict_valueiterator_next_1 _))
  refine wpAny_bind (wpAny_pure ?_)
  refine wpAny_bind ?_
  refine wpAny_bind ?_
  refine wpAny_bind (wpAny_typeNameOfWhole_valiter hit.typeIs (wpAny_pure ?_))
  refine wpAny_bind (wpAny_fieldsOf ho hd ?_)
  simp only [hown, Bool.false_eq_true, if_false]
  show wpAny _ _ (if (Value.ref d == Value.none) = true then _ else _) _ _ s
  rw [if_neg (show ¬ ((Value.ref d == Value.none) = true) from Bool.false_ne_true)]
  refine wpAny_bind (wpAny_pure ?_)
  refine wpAny_bind (wpAny_dictEntries hod hdd ?_)
  rw [if_neg (by simp)]
  refine wpAny_bind (wpAny_pure ?_)
  refine wpAny_bind (wpAny_dictEpoch hod hdd ?_)
  rw [if_neg (by simp)]
  refine wpAny_pure ?_
  simp only [show ¬ ((i : Int) < 0) from by omega, if_false, Int.toNat_natCast, hx]
  refine wpAny_bind ?_
  refine wpAny_bind (wpAny_typeNameOfWhole_valiter hit.typeIs (wpAny_pure ?_))
  refine wpAny_bind (wpAny_isOneOf_valiter hit.typeIs ?_)
  show wpAny _ _ (setField (.ref it) 1 (rawInt ((i : Int) + 1)) >>= _) _ _ s
  refine wpAny_bind (wpAny_setField ho hd (by simp) ?_)
  have hit' : (s.heap.update it (Obj.mapFields (·.setIfInBounds 1 (rawInt ((i : Int) + 1))))).IsValIter it d (i + 1) es.size ep :=
    ⟨_, Heap.get?_update_self _ ho (Obj.isFreed_of_fields (Obj.data_mapFields hd _)), (Obj.cls_mapFields ..).trans hc, by rw [Obj.data_mapFields hd]; simp [rawInt]⟩
  refine wpAny_bind (wpAny_holding ?_)
  refine wpAny_bind (wpAny_isOneOf_valiter (s := { s with heap := s.heap.update it (Obj.mapFields (·.setIfInBounds 1 (rawInt ((i : Int) + 1)))) }) hit'.typeIs ?_)
  refine wpAny_bind (wpAny_isOneOf_valiter (s := { s with heap := s.heap.update it (Obj.mapFields (·.setIfInBounds 1 (rawInt ((i : Int) + 1)))) }) hit'.typeIs ?_)
  show wpAny _ _ (pure e.val) _ _ _
  exact wpAny_pure (wpAny_pure ⟨_, rfl, hQ _ hit' (Heap.SameBut.update ..)⟩)
/-- a StopIteration is on its way -/
def Stops (h : Heap) (e : Value) : Prop := ∃ x o, e = .ref x ∧ h.get? x = some o ∧ o.cls = .type "StopIteration"
theorem vnext_end {it d : Addr} {i ep : Nat} {es : Array DictEntry} {od : Obj} {Q : Option Value → Shared → Prop} (hh : A.handled = none) (hit : s.heap.IsValIter it d i es.size ep)
    (hod : s.heap.get? d = some od) (hdd : od.data = .dict es ep) (hx : es[i]? = none)
    (hE : ∀ h' e, Heap.ExtBut it s.heap h' → Stops h' e → E e { s with heap := h' }) :
    wpAny (model PR w) A (callSpecial? (.ref it) "__next__") Q E s := by
  obtain ⟨o, ho, hc, hd⟩ := id hit
  have hown : Builtin.Dict_items.ownsTuple "dict_valueiterator" = false := by decide
  refine wpAny_callSpecial?_slot (name := Str.ofString "__next__") hit.typeIs F.slot_dict_valueiterator_next (wpAny_call_entry F.slot_dict_valueiterator_next hit.typeIs F.entry_dict_valueiterator_next ?_ (F.args_dict_valueiterator_next_1 _))
  refine wpAny_bind (wpAny_pure ?_)
  refine wpAny_bind ?_
  refine wpAny_bind ?_
  refine wpAny_bind (wpAny_typeNameOfWhole_valiter hit.typeIs (wpAny_pure ?_))
  refine wpAny_bind (wpAny_fieldsOf ho hd ?_)
  simp only [hown, Bool.false_eq_true, if_false]
  show wpAny _ _ (if (Value.ref d == Value.none) = true then _ else _) _ _ s
  rw [if_neg (show ¬ ((Value.ref d == Value.none) = true) from Bool.false_ne_true)]
  refine wpAny_bind (wpAny_pure ?_)
  refine wpAny_bind (wpAny_dictEntries hod hdd ?_)
  rw [if_neg (by simp)]
  refine wpAny_bind (wpAny_pure ?_)
  refine wpAny_bind (wpAny_dictEpoch hod hdd ?_)
  rw [if_neg (by simp)]
  refine wpAny_pure ?_
  simp only [show ¬ ((i : Int) < 0) from by omega, if_false, Int.toNat_natCast, hx]
  refine wpAny_bind ?_
  refine wpAny_bind (wpAny_typeNameOfWhole_valiter hit.typeIs (wpAny_pure ?_))
  show wpAny _ _ (setField (.ref it) 0 .none >>= _) _ _ s
  refine wpAny_bind (wpAny_setField ho hd (by simp) ?_)
  show wpAny _ _ (newExc (.type "StopIteration") [] >>= _) _ _ _
  refine wpAny_bind ?_
  simp only [newExc, newTuple]
  refine wpAny_bind (wpAny_newObj_type ?_ (by size_fits))
  refine wpAny_bind (m := firstArgMember _ _) (wpAny_of_eq (a := Value.none) (by first | rfl | (simp only [firstArgMember]; rfl)) ?_)
  refine wpAny_newObj_type ?_ (by size_fits)
  simp only [raiseNew]
  refine wpAny_bind (wpAny_handled ?_)
  rw [show A.in1.handled = none from hh]
  refine wpAny_bind (wpAny_pure (wpAny_throw ?_))
  refine hE _ _ ?_ ⟨_, _, rfl, Heap.get?_push_size _ rfl, rfl⟩
  intro b o' hb e
  exact Heap.get?_push_of_some _ (Heap.get?_push_of_some _ ((Heap.get?_update_other _ _ (Ne.symm hb)).trans e))
end
end Mine
end
section
open PySem PySem.W PyProof.Rows PySem.Calls
set_option maxRecDepth 100000
set_option maxHeartbeats 1000000
namespace Mine
theorem slot_filter_next : Slot "filter" "__next__" "filter.__next__" :=
  .of (owner := "filter") (n := "__next__") (by rw [typeLookup_type, builtinLookup_eq_fast]; kernel_rfl) (by decide +kernel) (by decide +kernel) (by decide +kernel)
    (by first | exact .inl (by decide +kernel) | exact .inr (by decide +kernel)) (by rw [isSubtype_type]; kernel_rfl)
theorem entry_filter_next : entryFor table "filter.__next__" = some Builtin.«filter.__next__» := entryFor_of_tree (by kernel_rfl)
theorem args_filter_next (a : Value) : argsOk "filter.__next__" ⟨[a], []⟩ := by unfold argsOk; kernel_rfl
theorem plain_filter_next : plainId "filter.__next__" = true := by decide +kernel
/-- the truth of a None or a text -/
def tru : Value → Bool
  | .str x _ => decide (x.length ≠ 0)
  | _ => false
def ValOk (v : Value) : Prop := v = .none ∨ ∃ l t, v = .str (S l) t ∧ l.length ≤ 100000
def filterObj (it : Addr) : Obj := { cls := .type "filter", data := .fields #[.none, .ref it] }
section
variable {w : World} {A : Around} {s : Shared} {E : Value → Shared → Prop}
theorem truthy_val {v : Value} (hv : ValOk v) {Q : Bool → Shared → Prop} (h : ∀ tk, Q (tru v) { s with toks := tk }) : wpAny (model PR w) A (truthy v) Q E s := by
  rcases hv with rfl | ⟨l, t, rfl, hl⟩
  · exact wpAny_pure (h s.toks)
  · refine P.truthy_str (by rw [S_length]; omega) ?_
    have e : ((((S l).length : Nat) : Int) != 0) = tru (.str (S l) t) := by
      unfold tru
      by_cases q : (S l).length = 0 <;> simp [q]
    rw [e]
    exact h _
theorem filter_loop {f it d : Addr} {es : Array DictEntry} {ep : Nat} {od : Obj} (hd : od.data = .dict es ep) (hv : ∀ e ∈ es.toList, ValOk e.val) (hfi : f ≠ it) (hdi : d ≠ it) {R : Result → Shared → Prop} (hh : A.handled = none) :
    ∀ (n k : Nat) (s : Shared), es.size - k = n → s.heap.IsValIter it d k es.size ep → s.heap.get? d = some od → s.heap.get? f = some (filterObj it) →
    (∀ k' e h' tk, k ≤ k' → es[k']? = some e → tru e.val = true → (∀ j e', k ≤ j → j < k' → es[j]? = some e' → tru e'.val = false) → h'.IsValIter it d (k' + 1) es.size ep → Heap.ExtBut it s.heap h' → R (.ok (.ret e.val)) { s with heap := h', toks := tk }) →
    (∀ h' x tk, (∀ j e', k ≤ j → es[j]? = some e' → tru e'.val = false) → Heap.ExtBut it s.heap h' → Stops h' x → R (.error x) { s with heap := h', toks := tk }) →
    wpAny (model PR w) A.in1 (Builtin.«filter.__next__» ⟨[.ref f], []⟩) (fun fin s' => match fin with | .done fl => R (.ok fl) s' | .again c' => c'.quiet = true ∧ codeAny (model PR w) A c' R s') (fun e s' => R (.error e) s') s := by
  intro n
  induction n with
  | zero =>
    intro k s hk hit hod hf _ hE
    unfold Builtin.«filter.__next__»
    refine wpAny_bind (m := slotArgs "__next__" 0 _) (wpAny_pure ?_)
    refine wpAny_bind (wpAny_field hf rfl (x := .none) rfl ?_)
    refine wpAny_bind (wpAny_field hf rfl (x := .ref it) rfl ?_)
    refine wpAny_bind (vnext_end hh hit hod hd (Array.getElem?_eq_none (by omega)) ?_)
    intro h' x hx hst
    exact hE h' x _ (fun j e' h1 h2 => by rw [Array.getElem?_eq_none (by omega)] at h2; cases h2) hx hst
  | succ n ih =>
    intro k s hk hit hod hf hR hE
    have hlt : k < es.size := by omega
    have hx : es[k]? = some es[k] := Array.getElem?_eq_getElem hlt
    have hval : ValOk es[k].val := hv _ (by simp)
    unfold Builtin.«filter.__next__»
    refine wpAny_bind (m := slotArgs "__next__" 0 _) (wpAny_pure ?_)
    refine wpAny_bind (wpAny_field hf rfl (x := .none) rfl ?_)
    refine wpAny_bind (wpAny_field hf rfl (x := .ref it) rfl ?_)
    refine wpAny_bind (vnext_item hit hod hd hx ?_)
    intro h' hit' hsb
    show wpAny _ _ (holding [es[k].val] (do rule "filter.__next__.own-truth"; truthy es[k].val) >>= fun keep => if keep = true then ret es[k].val else again (Code.builtin "filter.__next__" { pos := [Value.ref f] })) _ _ _
    refine wpAny_bind (wpAny_holding (wpAny_bind (wpAny_rule (truthy_val hval fun tk => ?_))))
    have hext : Heap.ExtBut it s.heap h' := hsb.extBut
    cases htr : tru es[k].val with
    | true =>
      simp only [if_true]
      refine wpAny_pure ?_
      exact hR k _ h' tk (Nat.le_refl _) hx htr (fun j e' h1 h2 => by omega) hit' hext
    | false =>
      simp only [Bool.false_eq_true, if_false]
      refine wpAny_pure ⟨plainId_quiet plain_filter_next _, codeAny_builtin entry_filter_next ?_⟩
      rw [Around.under_plainId plain_filter_next _]
      have hfalse : ∀ j e', k ≤ j → (∀ e'', k + 1 ≤ j → es[j]? = some e'' → tru e''.val = false) → es[j]? = some e' → tru e'.val = false := by
        intro j e' h1 h2 h3
        by_cases hj : j = k
        · subst hj
          rw [hx] at h3
          rw [← Option.some.inj h3]; exact htr
        · exact h2 e' (by omega) h3
      refine ih (k + 1) { s with heap := h', toks := tk } (by omega) hit' (hext d od hdi hod) (hext f _ hfi hf) ?_ ?_
      · intro k' e h'' tk'' h1 h2 h3 h4 h5 h6
        exact hR k' e h'' tk'' (by omega) h2 h3 (fun j e' q1 q2 q3 => hfalse j e' q1 (fun e'' r1 r2 => h4 j e'' r1 q2 r2) q3) h5 (fun b o hb e => h6 b o hb (hext b o hb e))
      · intro h'' x tk'' h1 h2 h3
        exact hE h'' x tk'' (fun j e' q1 q3 => hfalse j e' q1 (fun e'' r1 r2 => h1 j e'' r1 r2) q3) (fun b o hb e => h2 b o hb (hext b o hb e)) h3
theorem pyNext_filter {f it d : Addr} {es : Array DictEntry} {ep k : Nat} {od : Obj} {Q : Option Value → Shared → Prop} (hd : od.data = .dict es ep) (hv : ∀ e ∈ es.toList, ValOk e.val) (hfi : f ≠ it) (hdi : d ≠ it) (hh : A.handled = none)
    (hit : s.heap.IsValIter it d k es.size ep) (hod : s.heap.get? d = some od) (hf : s.heap.get? f = some (filterObj it))
    (hR : ∀ k' e h' tk, k ≤ k' → es[k']? = some e → tru e.val = true → (∀ j e', k ≤ j → j < k' → es[j]? = some e' → tru e'.val = false) → h'.IsValIter it d (k' + 1) es.size ep → Heap.ExtBut it s.heap h' → Q (some e.val) { s with heap := h', toks := tk })
    (hE : ∀ h' tk, (∀ j e', k ≤ j → es[j]? = some e' → tru e'.val = false) → Heap.ExtBut it s.heap h' → Q none { s with heap := h', toks := tk }) :
    wpAny (model PR w) A (pyNext (.ref f)) Q E s := by
  have hT : s.TypeIs (.ref f) "filter" := ⟨_, hf, rfl⟩
  unfold pyNext
  refine wpAny_bind (wpAny_attempt (wpAny_callSpecial?_slot (name := Str.ofString "__next__") hT slot_filter_next ?_))
  refine wpAny_call (codeAny_call_builtin slot_filter_next.plain entry_filter_next (slot_filter_next.check _ _ _ _ _ _ _ _ hT (args_filter_next _) ?_))
  refine filter_loop (R := fun r s' => match r with | .ok (.ret v) => wpAny (model PR w) A (pure (some v)) Q E s' | .ok _ => False | .error e => wpAny (model PR w) A (do if ← isInstance e (.type "StopIteration") then pure none else throw e) Q E s') hd hv hfi hdi hh _ k s rfl hit hod hf ?_ ?_
  · intro k' e h' tk h1 h2 h3 h4 h5 h6
    exact wpAny_pure (hR k' e h' tk h1 h2 h3 h4 h5 h6)
  · intro h' x tk h1 h2 h3
    obtain ⟨y, o, rfl, ho, hc⟩ := h3
    refine wpAny_bind (wpAny_isInstance (T := "StopIteration") (b := true) ⟨_, ho, hc⟩ isSubtype_stop ?_)
    exact wpAny_pure (hE h' tk h1 h2)
end
end Mine
end
section
open PySem PySem.W PyProof.Rows PySem.Calls
set_option maxRecDepth 100000
set_option maxHeartbeats 1000000
namespace Mine
theorem filter_skip {α : Type} (p : α → Bool) (l : List α) (k : Nat) : ∀ m, (∀ j x, k ≤ j → j < k + m → l[j]? = some x → p x = false) → (l.take (k + m)).filter p = (l.take k).filter p
  | 0, _ => rfl
  | m + 1, h => by
    have ih := filter_skip p l k m (fun j x h1 h2 h3 => h j x h1 (by omega) h3)
    rw [show k + (m + 1) = (k + m) + 1 from by omega, List.take_add_one, List.filter_append, ih]
    cases hx : l[k + m]? with
    | none => simp
    | some x => simp [h (k + m) x (by omega) (by omega) hx]
theorem filter_hit {α : Type} (p : α → Bool) (l : List α) {k k' : Nat} {x : α} (hk : k ≤ k') (hx : l[k']? = some x) (hp : p x = true) (h : ∀ j y, k ≤ j → j < k' → l[j]? = some y → p y = false) :
    (l.take (k' + 1)).filter p = (l.take k).filter p ++ [x] := by
  have e := filter_skip p l k (k' - k) (fun j y h1 h2 h3 => h j y h1 (by omega) h3)
  rw [show k + (k' - k) = k' from by omega] at e
  rw [List.take_add_one, List.filter_append, e, hx]
  simp [hp]
theorem filter_take_get {α : Type} (p : α → Bool) (l : List α) (k i : Nat) (x : α) (ys : List α) (hl : ys.length = i) (e : (l.take k).filter p = ys ++ [x]) : (l.filter p)[i]? = some x := by
  have : l.filter p = (l.take k).filter p ++ (l.drop k).filter p := by rw [← List.filter_append, List.take_append_drop]
  rw [this, e, List.append_assoc, List.getElem?_append_right (by omega)]
  simp [hl]
theorem filter_all {α : Type} (p : α → Bool) (l : List α) (k : Nat) (h : ∀ j x, k ≤ j → l[j]? = some x → p x = false) : (l.take k).filter p = l.filter p := by
  have e := filter_skip p l k l.length (fun j x h1 _ h3 => h j x h1 h3)
  rw [← e, List.take_of_length_le (by omega)]
theorem slot_filter_iter : Slot "filter" "__iter__" "filter.__iter__" :=
  .of (owner := "filter") (n := "__iter__") (by rw [typeLookup_type, builtinLookup_eq_fast]; kernel_rfl) (by decide +kernel) (by decide +kernel) (by decide +kernel)
    (by first | exact .inl (by decide +kernel) | exact .inr (by decide +kernel)) (by rw [isSubtype_type]; kernel_rfl)
theorem entry_filter_iter : entryFor table "filter.__iter__" = some Builtin.«dict_keyiterator.__iter__» :=
  entryFor_alias (id' := "dict_keyiterator.__iter__") (by kernel_rfl) rfl (by decide +kernel) (by kernel_rfl)
theorem args_filter_iter (a : Value) : argsOk "filter.__iter__" ⟨[a], []⟩ := by unfold argsOk; kernel_rfl
theorem pyIter_filter {w : World} {A : Around} {s : Shared} {E : Value → Shared → Prop} {f it : Addr} {Q : Value → Shared → Prop} (hf : s.heap.get? f = some (filterObj it)) (h : Q (.ref f) s) : wpAny (model PR w) A (pyIter (.ref f)) Q E s := by
  have hT : s.TypeIs (.ref f) "filter" := ⟨_, hf, rfl⟩
  refine wpAny_pyIter_slot hT slot_filter_iter (wpAny_call_entry slot_filter_iter hT entry_filter_iter ?_ (args_filter_iter _))
  show wpAny _ _ (ret (.ref f)) _ _ s
  exact wpAny_pure ⟨_, rfl, "filter", _, hT, slot_filter_next.lookup, h⟩
def trEn (e : DictEntry) : Bool := tru e.val
theorem Walks.filter {w : World} {A : Around} (hh : A.handled = none) {f it d : Addr} {es : Array DictEntry} {ep : Nat} {od : Obj} (hd : od.data = .dict es ep) (hv : ∀ e ∈ es.toList, ValOk e.val) (hfi : f ≠ it) (hdi : d ≠ it) :
    Walks PR w A f [it, d, f] [it] (es.toList.filter trEn).length (fun i v => ∃ e, (es.toList.filter trEn)[i]? = some e ∧ v = e.val)
      (fun i h => ∃ k, h.IsValIter it d k es.size ep ∧ h.get? d = some od ∧ h.get? f = some (filterObj it) ∧ ((es.toList.take k).filter trEn).length = i) where
  sub := fun b hb => by simp at hb; simp [hb]
  frame := fun i h h' ⟨k, a1, a2, a3, a4⟩ hk => ⟨k, a1.at fun o e => hk it (by simp) o e, hk d (by simp) _ a2, hk f (by simp) _ a3, a4⟩
  item := fun i s Q E hi ⟨k, a1, a2, a3, a4⟩ hQ => by
    refine pyNext_filter hd hv hfi hdi hh a1 a2 a3 ?_ ?_
    · intro k' e h' tk h1 h2 h3 h4 h5 h6
      have h2' : es.toList[k']? = some e := by simpa using h2
      have hfilt := filter_hit trEn es.toList h1 h2' h3 (fun j y q1 q2 q3 => h4 j y q1 q2 (by simpa using q3))
      refine hQ e.val h' tk ⟨e, filter_take_get trEn es.toList (k' + 1) i e _ a4 hfilt, rfl⟩ ⟨k' + 1, h5, h6 d _ hdi a2, h6 f _ hfi a3, by rw [hfilt, List.length_append, a4]; rfl⟩ ?_
      intro b o hb e'
      exact h6 b o (fun q => hb (by simp [q])) e'
    · intro h' tk h1 _
      have := filter_all trEn es.toList k (fun j x q1 q2 => h1 j x q1 (by simpa using q2))
      rw [this] at a4
      omega
  done := fun s Q E ⟨k, a1, a2, a3, a4⟩ hQ => by
    refine pyNext_filter hd hv hfi hdi hh a1 a2 a3 ?_ ?_
    · intro k' e h' tk h1 h2 h3 h4 h5 h6
      have h2' : es.toList[k']? = some e := by simpa using h2
      have hfilt := filter_hit trEn es.toList h1 h2' h3 (fun j y q1 q2 q3 => h4 j y q1 q2 (by simpa using q3))
      have hget := filter_take_get trEn es.toList (k' + 1) _ e _ a4 hfilt
      rw [List.getElem?_eq_none (Nat.le_refl _)] at hget
      cases hget
    · intro h' tk h1 h2
      exact hQ h' tk fun b o hb e => h2 b o (fun q => hb (by simp [q])) e
  self := fun i s Q E ⟨k, a1, a2, a3, a4⟩ hQ => pyIter_filter a3 hQ
end Mine
end
section
open PySem PySem.W PyProof.Rows PySem.Calls
set_option maxRecDepth 100000
set_option maxHeartbeats 1000000
namespace Mine
section
variable {prog : Program} {w : World} {A : Around} {R : Result → Shared → Prop} {I : Addr} {fp wr : List Addr} {n : Nat} {P : Nat → Value → Prop} {St : Nat → Heap → Prop}
def bestObj (c : Nat) (vs : Array Value) : Obj := { cls := .type "list", dict := none, data := .seq vs c, slots := #[] }
theorem max_loop_kw (W : Walks prog w A.in1 I fp wr n P St) (bt : Nat → Nat → Bool) (hcmp : CmpOf prog w A.in1 .Gt P bt) (B : Addr) (hB : B ∉ fp) (dv : Value) :
    ∀ (k j : Nat) (s : Shared) (vb : Value) (c : Nat), n - (j + 1) = k → j + 1 ≤ n → St (j + 1) s.heap → P (argBest bt j) vb → s.heap.get? B = some (bestObj c #[vb, vb]) →
    (∀ v h' tk, P (argBest bt (n - 1)) v → (∀ b o, b ∉ wr → b ≠ B → s.heap.get? b = some o → h'.get? b = some o) → R (.ok (.ret v)) { s with heap := h', toks := tk }) →
    codeAny (model prog w) A (.builtin "max.loop" ⟨[.ref I, .none, .ref B], [(Str.ofString "default", dv)]⟩) R s := by
  have hBw : B ∉ wr := fun h => hB (W.sub _ h)
  have hname : (toString "max" ++ toString ".loop" : String) = "max.loop" := by decide
  intro k
  induction k with
  | zero =>
    intro j s vb c hk hj hst hPb hS hR
    have hin : j + 1 = n := by omega
    refine codeAny_builtin F.entry_max_loop ?_
    rw [Around.under_plainId F.plain_max_loop _]
    show wpAny _ A.in1 (seqItems? (.ref B) >>= _) _ _ s
    refine wpAny_bind (wpAny_seqItems hS rfl ?_)
    show wpAny _ A.in1 (tryCatch (pyNext (.ref I)) _ >>= _) _ _ s
    refine wpAny_bind (wpAny_tryCatch (W.done s _ _ (hin ▸ hst) fun h' tk hk' => ?_))
    have hS' := hk' B _ hBw hS
    show wpAny _ A.in1 (updateSeq B (fun _ => #[]) >>= _) _ _ _
    refine wpAny_bind (wpAny_updateSeq hS' rfl (wpAny_bind (wpAny_letGo (wpAny_pure ?_))))
    exact hR vb _ tk (by rw [← hin]; exact hPb) fun b o hbw hbB e => (Heap.get?_update_other _ _ (Ne.symm hbB)).trans (hk' b o hbw e)
  | succ k ih =>
    intro j s vb c hk hj hst hPb hS hR
    have hlt : j + 1 < n := by omega
    refine codeAny_builtin F.entry_max_loop ?_
    rw [Around.under_plainId F.plain_max_loop _]
    show wpAny _ A.in1 (seqItems? (.ref B) >>= _) _ _ s
    refine wpAny_bind (wpAny_seqItems hS rfl ?_)
    show wpAny _ A.in1 (tryCatch (pyNext (.ref I)) _ >>= _) _ _ s
    refine wpAny_bind (wpAny_tryCatch (W.item (j + 1) s _ _ hlt hst fun v h' tk hP hst' hk' => ?_))
    have hS' := hk' B _ hBw hS
    show wpAny _ A.in1 (tryCatch (holding [v, v] (richCompare .Gt v vb >>= _)) _ >>= _) _ _ _
    refine wpAny_bind (wpAny_tryCatch (wpAny_holding (wpAny_bind (hcmp (j + 1) (argBest bt j) v vb _ _ _ hP hPb ?_))))
    refine wpAny_bind (wpAny_holding (wpAny_truthy_bool ?_))
    refine wpAny_bind (wpAny_letGo (wpAny_pure ?_))
    cases hb : bt (j + 1) (argBest bt j) with
    | true =>
      simp only [if_true]
      refine wpAny_bind (wpAny_updateSeq hS' rfl (wpAny_bind (wpAny_letGo ?_)))
      rw [hname]
      refine wpAny_pure ⟨plainId_quiet F.plain_max_loop _, ih (j + 1) _ v _ (by omega) hlt (W.frame _ _ _ hst' fun b hbf o e => ?_) (by simp only [argBest, hb, if_true]; exact hP) (Heap.get?_update_self _ hS' rfl) fun v' h'' tk'' hP' hk'' => ?_⟩
      · exact (Heap.get?_update_other _ _ (fun h : B = b => hB (by rw [h]; exact hbf))).trans e
      · exact hR v' h'' tk'' hP' fun b o hbw hbB e => hk'' b o hbw hbB ((Heap.get?_update_other _ _ (Ne.symm hbB)).trans (hk' b o hbw e))
    | false =>
      simp only [Bool.false_eq_true, if_false]
      refine wpAny_bind (wpAny_letGo ?_)
      rw [hname]
      refine wpAny_pure ⟨plainId_quiet F.plain_max_loop _, ih (j + 1) _ vb c (by omega) hlt hst' (by simp only [argBest, hb, Bool.false_eq_true, if_false]; exact hPb) hS' fun v' h'' tk'' hP' hk'' => ?_⟩
      exact hR v' h'' tk'' hP' fun b o hbw hbB e => hk'' b o hbw hbB (hk' b o hbw e)
theorem args_max_d (a b : Value) : argsOk "max" ⟨[a], [(Str.ofString "default", b)]⟩ := by unfold argsOk; kernel_rfl
theorem call_max_kw {E : Value → Shared → Prop} {s : Shared} {x dv : Value} {Q : Value → Shared → Prop}
    (h : wpAny (model prog w) A.in1 (pyIter x) (fun it s₂ => ∃ I fp wr n P St bt, it = .ref I ∧ Walks prog w A.in1 I fp wr n P St ∧ St 0 s₂.heap ∧ (∀ b ∈ fp, b < s₂.heap.objs.size) ∧ 0 < n ∧ CmpOf prog w A.in1 .Gt P bt ∧
      ∀ v h' tk, P (argBest bt (n - 1)) v → (∀ b o, b ∉ wr → s₂.heap.get? b = some o → h'.get? b = some o) → Q v { s₂ with heap := h', toks := tk }) E s) :
    wpAny (model prog w) A (call (.builtin "max") [x] [(Str.ofString "default", dv)]) Q E s := by
  have hname : (toString "max" ++ toString ".loop" : String) = "max.loop" := by decide
  refine wpAny_call (codeAny_call_builtin F.plain_max F.entry_max ?_)
  have main : wpAny (model prog w) A.in1 (Builtin.«max» ⟨[x], [(Str.ofString "default", dv)]⟩) (fun fin s' => match fin with
      | .done f => (match (Except.ok f : Result) with | .ok (.ret v) => Q v s' | .ok _ => False | .error e => E e s')
      | .again c' => c'.quiet = true ∧ codeAny (model prog w) A c' (fun r s' => match r with | .ok (.ret v) => Q v s' | .ok _ => False | .error e => E e s') s') E s := by
    show wpAny _ A.in1 (Builtin.Builtins.bindParams "max" ["key", "default"] 0 ⟨[], [(Str.ofString "default", dv)]⟩ >>= _) _ _ s
    refine wpAny_bind (wpAny_of_eq (show Builtin.Builtins.bindParams "max" ["key", "default"] 0 ⟨[], [(Str.ofString "default", dv)]⟩ = pure [none, some dv] from by kernel_rfl) ?_)
    refine wpAny_bind (wpAny_pure ?_)
    refine wpAny_bind (wpAny_mono h (fun it s₂ h₂ => ?_) fun _ _ e => e)
    obtain ⟨I, fp, wr, n, P, St, bt, rfl, W, hst, hfp, hn, hcmp, hQ⟩ := h₂
    refine wpAny_bind (wpAny_newObj_type ?_)
    have hB : s₂.heap.objs.size ∉ fp := fun hm => Nat.lt_irrefl _ (hfp _ hm)
    have hBw : s₂.heap.objs.size ∉ wr := fun hm => hB (W.sub _ hm)
    rw [hname]
    refine wpAny_pure ⟨plainId_quiet F.plain_max_loop _, codeAny_builtin F.entry_max_loop ?_⟩
    rw [Around.under_plainId F.plain_max_loop _]
    have hst' := W.frame _ _ _ hst fun b _ o e => Heap.get?_push_of_some (bestObj 0 #[]) e
    have hS : (s₂.heap.push (bestObj 0 #[])).get? s₂.heap.objs.size = some (bestObj 0 #[]) := Heap.get?_push_size _ rfl
    show wpAny _ A.in1 (seqItems? (.ref s₂.heap.objs.size) >>= _) _ _ _
    refine wpAny_bind (wpAny_seqItems hS rfl ?_)
    show wpAny _ A.in1 (tryCatch (pyNext (.ref I)) _ >>= _) _ _ _
    refine wpAny_bind (wpAny_tryCatch (W.item 0 _ _ _ hn hst' fun v h' tk hP hst'' hk' => ?_))
    have hS' := hk' s₂.heap.objs.size _ hBw hS
    show wpAny _ A.in1 (updateSeq s₂.heap.objs.size (fun _ => #[v, v]) >>= _) _ _ _
    refine wpAny_bind (wpAny_updateSeq hS' rfl ?_)
    rw [hname]
    refine wpAny_pure ⟨plainId_quiet F.plain_max_loop _, max_loop_kw W bt hcmp _ hB dv _ 0 _ v _ rfl hn (W.frame _ _ _ hst'' fun b hbf o e => ?_) hP (Heap.get?_update_self _ hS' rfl) fun v' h'' tk'' hP' hk'' => ?_⟩
    · exact (Heap.get?_update_other _ _ (fun h : s₂.heap.objs.size = b => hB (by rw [h]; exact hbf))).trans e
    · exact hQ v' h'' tk'' hP' fun b o hbw e => hk'' b o hbw (Nat.ne_of_lt (Heap.lt_size e)) ((Heap.get?_update_other _ _ (Nat.ne_of_gt (Heap.lt_size e))).trans (hk' b o hbw (Heap.get?_push_of_some _ e)))
  have ha := args_max_d x dv
  simp only [checkBuiltinCall, F.kind_max]
  cases hsig : Manifest.signature? "max" with
  | none => exact wpAny_pure main
  | some sig =>
    have ha' : Bind.checkArgs "max" sig ⟨[x], [(Str.ofString "default", dv)]⟩ = pure () := by simpa only [argsOk, hsig] using ha
    show wpAny _ A.in1 (Bind.checkArgs "max" sig ⟨[x], [(Str.ofString "default", dv)]⟩) _ _ s
    rw [ha']; exact wpAny_pure main
end
end Mine
end
section
open PySem PySem.W PyProof.Rows PySem.Calls
set_option maxRecDepth 100000
set_option maxHeartbeats 1000000
namespace Mine
theorem mro_filter : mroOf (.type "filter") = pure [.type "filter", .type "object"] := by rw [mroOf_type]; kernel_rfl
theorem lookup_filter_new : typeLookup (.type "filter") "__new__" = pure (some (.builtin "filter.__new__")) := by rw [typeLookup_type, builtinLookup_eq_fast]; kernel_rfl
theorem slot_filter_init : Slot "filter" "__init__" "object.__init__" :=
  .of (owner := "object") (n := "__init__") (by rw [typeLookup_type, builtinLookup_eq_fast]; kernel_rfl) (by decide +kernel) (by decide +kernel) (by decide +kernel)
    (by first | exact .inl (by decide +kernel) | exact .inr (by decide +kernel)) (by rw [isSubtype_type]; kernel_rfl)
theorem called_filter : TypeCalled "filter" "filter.__new__" "object.__init__" :=
  ⟨by decide +kernel, by decide +kernel, ⟨_, _, mro_filter⟩, madeBy_type mro_filter lookup_filter_new (by decide +kernel), by decide +kernel, by rw [isSubtype_type]; kernel_rfl, slot_filter_init⟩
theorem typeCall_filter (a b : Value) : checkTypeCall "filter" ⟨[a, b], []⟩ = pure () := by kernel_rfl
theorem newCall_filter (a b : Value) : checkBuiltinCall "filter.__new__" ⟨[.type "filter", a, b], []⟩ = pure () := by kernel_rfl
theorem entry_filter_new : entryFor table "filter.__new__" = some Builtin.«filter.__new__» := entryFor_of_tree (by kernel_rfl)
theorem initArgs_filter (obj a b : Value) : argsOk "object.__init__" ⟨[obj, a, b], []⟩ := by unfold argsOk; kernel_rfl
section
variable {w : World} {A : Around} {s : Shared} {E : Value → Shared → Prop}
def valIterObj (d n ep : Nat) : Obj := { cls := .type "dict_valueiterator", data := .fields #[.ref d, .int 0 0, .int n 0, .int ep 0] }
theorem pyIter_view {v d : Addr} {es : Array DictEntry} {ep : Nat} {od : Obj} {Q : Value → Shared → Prop} (hv : s.heap.IsValuesView v d) (hod : s.heap.get? d = some od) (hdd : od.data = .dict es ep)
    (hQ : Q (.ref s.heap.objs.size) { s with heap := s.heap.push (valIterObj d es.size ep) }) : wpAny (model PR w) A (pyIter (.ref v)) Q E s := by
  obtain ⟨ov, hov, hcv, hdv⟩ := id hv
  refine wpAny_pyIter_slot hv.typeIs F.slot_dict_values_iter (wpAny_call_entry F.slot_dict_values_iter hv.typeIs F.entry_dict_values_iter ?_ (F.args_dict_values_iter_1 _))
  unfold Builtin.«dict_values.__iter__»
  refine wpAny_bind (wpAny_pure ?_)
  refine wpAny_bind ?_
  unfold Builtin.Dict_items.dictOf
  refine wpAny_bind (wpAny_field hov hdv (x := .ref d) rfl (wpAny_pure ?_))
  refine wpAny_bind ?_
  unfold Builtin.Dict_items.newIterator
  refine wpAny_bind (wpAny_dictEntries hod hdd ?_)
  refine wpAny_bind (wpAny_dictEpoch hod hdd ?_)
  have hown : Builtin.Dict_items.ownsTuple "dict_valueiterator" = false := by decide
  simp only [hown, Bool.false_eq_true, if_false]
  exact wpAny_newObj_type (wpAny_pure ⟨_, rfl, "dict_valueiterator", _, ⟨_, Heap.get?_push_size _ rfl, rfl⟩, F.slot_dict_valueiterator_next.lookup, hQ⟩)
theorem meets_filter_new (v : Addr) : MeetsIn PR w (Builtin.«filter.__new__» ⟨[.type "filter", .none, .ref v], []⟩) (fun _ R s => ∃ d od es ep, s.heap.IsValuesView v d ∧ s.heap.get? d = some od ∧ od.data = .dict es ep ∧
      R (.ok (.ret (.ref (s.heap.push (valIterObj d es.size ep)).objs.size))) { s with heap := (s.heap.push (valIterObj d es.size ep)).push (filterObj s.heap.objs.size) }) :=
  .of_wp fun A R s ⟨d, od, es, ep, hv, hod, hdd, h⟩ => by
    unfold Builtin.«filter.__new__»
    refine wpAny_bind (wpAny_of_eq (show Builtin.SmallTypes.newClass "filter" ⟨[.type "filter", .none, .ref v], []⟩ = pure (.type "filter", [.none, .ref v]) from by kernel_rfl) ?_)
    refine wpAny_bind (wpAny_of_eq (show Builtin.SmallTypes.refuseKeywords "filter" (.type "filter") ⟨[.type "filter", .none, .ref v], []⟩ = pure () from by kernel_rfl) ?_)
    refine wpAny_bind (wpAny_of_eq (show checkCount "filter" 2 2 [Value.none, .ref v].length = pure () from by kernel_rfl) ?_)
    refine wpAny_bind (pyIter_view hv hod hdd ?_)
    show wpAny _ _ (newObj (.type "filter") (.fields #[Value.none, .ref s.heap.objs.size]) >>= _) _ _ _
    refine wpAny_bind (wpAny_newObj_type ?_)
    exact wpAny_pure ⟨_, rfl, h⟩
theorem call_filter {v d : Addr} {es : Array DictEntry} {ep : Nat} {od : Obj} {Q : Value → Shared → Prop} (hv : s.heap.IsValuesView v d) (hod : s.heap.get? d = some od) (hdd : od.data = .dict es ep)
    (h : Q (.ref (s.heap.push (valIterObj d es.size ep)).objs.size) { s with heap := (s.heap.push (valIterObj d es.size ep)).push (filterObj s.heap.objs.size) }) :
    wpAny (model PR w) A (call (.type "filter") [.none, .ref v]) Q E s :=
  callType_newIn called_filter (by decide) (typeCall_filter _ _) (newCall_filter _ _) (fun obj => initArgs_filter obj _ _) entry_filter_new (meets_filter_new v) ⟨d, od, es, ep, hv, hod, hdd, ⟨_, Heap.get?_push_size _ rfl, rfl⟩, h⟩
end
end Mine
end
section
open PySem PySem.W PyProof.Rows PySem.Calls
set_option maxRecDepth 100000
set_option maxHeartbeats 1000000
namespace Mine
theorem entry_contains_iter : entryFor table "proto.contains_iter" = some Builtin.«proto.contains_iter» := entryFor_of_tree (by kernel_rfl)
theorem plain_contains_iter : plainId "proto.contains_iter" = true := by decide +kernel
theorem look_dv_contains : typeLookup (.type "dict_values") "__contains__" = pure none := by rw [typeLookup_type, builtinLookup_eq_fast]; kernel_rfl
section
variable {w : World} {A : Around} {s : Shared} {E : Value → Shared → Prop}
theorem pyNext_val_item {it d : Addr} {i ep : Nat} {es : Array DictEntry} {od : Obj} {e : DictEntry} {Q : Option Value → Shared → Prop} (hit : s.heap.IsValIter it d i es.size ep)
    (hod : s.heap.get? d = some od) (hdd : od.data = .dict es ep) (hx : es[i]? = some e)
    (hQ : ∀ h', h'.IsValIter it d (i + 1) es.size ep → Heap.SameBut it s.heap h' → Q (some e.val) { s with heap := h' }) : wpAny (model PR w) A (pyNext (.ref it)) Q E s := by
  unfold pyNext
  exact wpAny_bind (wpAny_attempt (vnext_item hit hod hdd hx fun h' a b => wpAny_pure (hQ h' a b)))
theorem pyNext_val_end {it d : Addr} {i ep : Nat} {es : Array DictEntry} {od : Obj} {Q : Option Value → Shared → Prop} (hh : A.handled = none) (hit : s.heap.IsValIter it d i es.size ep)
    (hod : s.heap.get? d = some od) (hdd : od.data = .dict es ep) (hx : es[i]? = none)
    (hQ : ∀ h', Heap.ExtBut it s.heap h' → Q none { s with heap := h' }) : wpAny (model PR w) A (pyNext (.ref it)) Q E s := by
  unfold pyNext
  refine wpAny_bind (wpAny_attempt (vnext_end hh hit hod hdd hx fun h' e a b => ?_))
  obtain ⟨y, o, rfl, ho, hc⟩ := b
  exact wpAny_bind (wpAny_isInstance (T := "StopIteration") (b := true) ⟨_, ho, hc⟩ isSubtype_stop (wpAny_pure (hQ h' a)))
theorem eqBool_str_none {x : Str} {t : Tok} {Q : Bool → Shared → Prop} (h : Q false s) : wpAny (model PR w) A (eqBool (.str x t) .none) Q E s := by
  unfold eqBool
  refine wpAny_holding ?_
  show wpAny _ _ (richCompare .Eq (.str x t) .none >>= _) _ _ s
  refine wpAny_bind (PySem.EqNone.eq_str_none ?_)
  exact wpAny_truthy_bool h
theorem eqBool_none_none {Q : Bool → Shared → Prop} (h : Q true s) : wpAny (model PR w) A (eqBool .none .none) Q E s := by
  unfold eqBool
  refine wpAny_holding ?_
  exact wpAny_bind (wpAny_rule (wpAny_pure h))
def isNone : Value → Bool
  | .none => true
  | _ => false
theorem contains_loop {it d : Addr} {es : Array DictEntry} {ep : Nat} {od : Obj} (hd : od.data = .dict es ep) (hv : ∀ e ∈ es.toList, ValOk e.val) (hdi : d ≠ it) {R : Result → Shared → Prop} (hh : A.handled = none) :
    ∀ (n k : Nat) (s : Shared), es.size - k = n → s.heap.IsValIter it d k es.size ep → s.heap.get? d = some od →
    (∀ h' tk, Heap.ExtBut it s.heap h' → R (.ok (.ret (.bool ((es.toList.drop k).any fun e => isNone e.val)))) { s with heap := h', toks := tk }) →
    codeAny (model PR w) A (.builtin "proto.contains_iter" ⟨[.ref it, .none], []⟩) R s := by
  intro n
  induction n with
  | zero =>
    intro k s hk hit hod hR
    refine codeAny_builtin entry_contains_iter ?_
    rw [Around.under_plainId plain_contains_iter _]
    show wpAny _ _ (pyNext (.ref it) >>= _) _ _ s
    refine wpAny_bind (pyNext_val_end hh hit hod hd (Array.getElem?_eq_none (by omega)) fun h' he => ?_)
    refine wpAny_bind (wpAny_rule ?_)
    refine wpAny_pure ?_
    have e0 : (es.toList.drop k).any (fun e => isNone e.val) = false := by rw [List.drop_eq_nil_of_le (by simp; omega)]; rfl
    have := hR h' s.toks he
    rw [e0] at this
    exact this
  | succ n ih =>
    intro k s hk hit hod hR
    have hlt : k < es.size := by omega
    have hx : es[k]? = some es[k] := Array.getElem?_eq_getElem hlt
    have hval : ValOk es[k].val := hv _ (by simp)
    have hdrop : es.toList.drop k = es[k] :: es.toList.drop (k + 1) := by rw [List.drop_eq_getElem_cons (by simpa using hlt)]; simp
    refine codeAny_builtin entry_contains_iter ?_
    rw [Around.under_plainId plain_contains_iter _]
    show wpAny _ _ (pyNext (.ref it) >>= _) _ _ s
    refine wpAny_bind (pyNext_val_item hit hod hd hx fun h' hit' hsb => ?_)
    have hext : Heap.ExtBut it s.heap h' := hsb.extBut
    show wpAny _ _ (eqBool es[k].val .none >>= fun r => if r = true then (do rule "in.by-iteration.found"; ret (.bool true)) else again (.builtin "proto.contains_iter" ⟨[.ref it, .none], []⟩)) _ _ _
    rcases hval with hvn | ⟨l, t, hvs, _⟩
    · rw [hvn]
      refine wpAny_bind (eqBool_none_none ?_)
      simp only [if_true]
      refine wpAny_bind (wpAny_rule ?_)
      refine wpAny_pure ?_
      have := hR h' s.toks hext
      rw [hdrop, List.any_cons, hvn] at this
      exact this
    · rw [hvs]
      refine wpAny_bind (eqBool_str_none ?_)
      simp only [Bool.false_eq_true, if_false]
      refine wpAny_pure ⟨plainId_quiet plain_contains_iter _, ?_⟩
      refine ih (k + 1) { s with heap := h' } (by omega) hit' (hext d od hdi hod) ?_
      intro h'' tk'' he
      have := hR h'' tk'' (fun b o hb e => he b o hb (hext b o hb e))
      rw [hdrop, List.any_cons, hvs] at this
      exact this
theorem in_view {v d : Addr} {es : Array DictEntry} {ep : Nat} {od : Obj} {Q : Value → Shared → Prop} (hh : A.handled = none) (hv : s.heap.IsValuesView v d) (hod : s.heap.get? d = some od) (hdd : od.data = .dict es ep) (hok : ∀ e ∈ es.toList, ValOk e.val)
    (h : ∀ h' tk, (∀ b o, s.heap.get? b = some o → h'.get? b = some o) → Q (.bool (es.toList.any fun e => isNone e.val)) { s with heap := h', toks := tk }) :
    wpAny (model PR w) A (compareOp .In .none (.ref v)) Q E s := by
  show wpAny _ _ (contains (.ref v) .none >>= fun b => pure (.bool b)) Q E s
  refine wpAny_bind ?_
  unfold contains
  refine wpAny_holding ?_
  show wpAny _ _ (specialOf (.ref v) "__contains__" >>= _) _ _ s
  refine wpAny_bind (wpAny_specialOf hv.typeIs look_dv_contains ?_)
  show wpAny _ _ (callSpecialUnlessNone? (.ref v) "__contains__" [.none] _ >>= _) _ _ s
  refine wpAny_bind (m := callSpecialUnlessNone? (.ref v) "__contains__" [.none] _) ?_
  unfold callSpecialUnlessNone?
  refine wpAny_bind (wpAny_specialOf hv.typeIs look_dv_contains (wpAny_pure ?_))
  refine wpAny_bind (wpAny_rule ?_)
  refine wpAny_bind (wpAny_tryCatch (pyIter_view hv hod hdd ?_))
  have hlt : d < s.heap.objs.size := Heap.lt_size hod
  refine wpAny_bind (wpAny_runValue ?_)
  refine contains_loop hdd hok (Nat.ne_of_lt hlt) hh _ 0 _ rfl ⟨_, Heap.get?_push_size _ rfl, rfl, rfl⟩ (Heap.get?_push_of_some _ hod) ?_
  intro h' tk he
  refine wpAny_pure (wpAny_pure (h h' tk fun b o e => he b o (Nat.ne_of_lt (Heap.lt_size e)) (Heap.get?_push_of_some _ e)))
end
end Mine
end
section
set_option maxRecDepth 100000
namespace Mine
theorem sp_rank_fin : ∀ n : Fin 256, sp1 (rank1 n.val) = enc1 n.val := by decide +kernel
theorem sp_end : sp1 (256 * 63) = [63] := by decide
theorem sp_flat (os : List Nat) (h : ∀ o ∈ os, o < 256) : (os.map rank1).flatMap sp1 = os.flatMap enc1 := by
  induction os with
  | nil => rfl
  | cons o os ih =>
    simp only [List.map_cons, List.flatMap_cons]
    rw [ih fun x hx => h x (List.mem_cons_of_mem _ hx)]
    rw [sp_rank_fin ⟨o, h o (List.mem_cons_self ..)⟩]
theorem rankL_flat (os : List Nat) (h : ∀ o ∈ os, o < 256) (h0 : os ≠ []) : (rankL os).flatMap sp1 = os.flatMap enc1 ++ [63] := by
  unfold rankL
  rw [if_neg h0, List.flatMap_append, sp_flat os h]
  show os.flatMap enc1 ++ (sp1 (256 * 63) ++ []) = _
  rw [sp_end]; rfl
theorem rankL_ne (os : List Nat) (h0 : os ≠ []) : rankL os ≠ [] := by unfold rankL; rw [if_neg h0]; simp
theorem enc_spell (cs os : List Nat) (h : ∀ o ∈ os, o < 256) : encW cs os = spell cs (rankL os) := by
  unfold encW spell
  by_cases h0 : os = []
  · subst h0; rfl
  · rw [if_neg h0, if_neg (rankL_ne os h0), rankL_flat os h h0]; simp
/-- an octet's sign or signs, and its rank -/
theorem enc_rank_fin : ∀ n : Fin 256, (enc1 n.val = [(enc1 n.val).headD 0] ∧ rank1 n.val = 256 * ((enc1 n.val).headD 0 : Nat) ∧ (enc1 n.val).headD 0 ≠ 61 ∧ (enc1 n.val).headD 0 ≠ 63) ∨
    (enc1 n.val = [61, fig (n.val / 16), fig (n.val % 16)] ∧ rank1 n.val = 256 * 61 + n.val) := by decide +kernel
theorem enc_rank {n : Nat} (hn : n < 256) : (∃ d : Nat, enc1 n = [d] ∧ rank1 n = 256 * d ∧ d ≠ 61 ∧ d ≠ 63) ∨ (enc1 n = [61, fig (n / 16), fig (n % 16)] ∧ rank1 n = 256 * 61 + n) := by
  rcases enc_rank_fin ⟨n, hn⟩ with ⟨a, b, c, d⟩ | h
  · exact .inl ⟨_, a, b, c, d⟩
  · exact .inr h
theorem fig_mono : ∀ i j : Fin 16, decide (fig i.val < fig j.val) = decide (i.val < j.val) := by decide +kernel
theorem fig_lt {i j : Nat} (hi : i < 16) (hj : j < 16) : fig i < fig j ↔ i < j := by simpa using fig_mono ⟨i, hi⟩ ⟨j, hj⟩
theorem fig_eq {i j : Nat} (hi : i < 16) (hj : j < 16) : fig i = fig j ↔ i = j := by
  have h1 := fig_lt hi hj
  have h2 := fig_lt hj hi
  omega
theorem lt_pre (p a b : List Nat) : p ++ a < p ++ b ↔ a < b := by
  induction p with
  | nil => rfl
  | cons x p ih => simp only [List.cons_append, List.cons_lt_cons_iff]; simp [ih]
/-- two octets that differ: the sign's order is the rank's -/
theorem two_lt {a b : Nat} (ha : a < 256) (hb : b < 256) (u v : List Nat) (hne : rank1 a ≠ rank1 b) : enc1 a ++ u < enc1 b ++ v ↔ rank1 a < rank1 b := by
  rcases enc_rank ha with ⟨d, e1, e2, e3, e4⟩ | ⟨e1, e2⟩ <;> rcases enc_rank hb with ⟨d', f1, f2, f3, f4⟩ | ⟨f1, f2⟩ <;> rw [e1, f1, e2, f2] <;> rw [e2, f2] at hne <;> simp only [List.cons_append, List.nil_append, List.cons_lt_cons_iff]
  · constructor
    · exact fun h => h.elim (fun h => by omega) (fun h => by have := h.1; omega)
    · intro h; left; omega
  · constructor
    · exact fun h => h.elim (fun h => by omega) (fun h => by have := h.1; omega)
    · intro h; left; omega
  · constructor
    · exact fun h => h.elim (fun h => by omega) (fun h => by have := h.1; omega)
    · intro h; left; omega
  · have h1 : a / 16 < 16 := by omega
    have h2 : b / 16 < 16 := by omega
    have h3 : a % 16 < 16 := by omega
    have h4 : b % 16 < 16 := by omega
    rw [fig_lt h1 h2, fig_eq h1 h2, fig_lt h3 h4, fig_eq h3 h4]
    constructor
    · rintro (h | ⟨_, h | ⟨h, h' | ⟨h', _⟩⟩⟩) <;> omega
    · intro h
      right
      refine ⟨trivial, ?_⟩
      by_cases q : a / 16 = b / 16
      · right; refine ⟨q, .inl ?_⟩; omega
      · left; omega
theorem end_lt {b : Nat} (hb : b < 256) (u v : List Nat) : (63 :: u < enc1 b ++ v ↔ 256 * 63 < rank1 b) ∧ (enc1 b ++ v < 63 :: u ↔ rank1 b < 256 * 63) ∧ rank1 b ≠ 256 * 63 := by
  rcases enc_rank hb with ⟨d', f1, f2, f3, f4⟩ | ⟨f1, f2⟩ <;> rw [f1, f2] <;> simp only [List.cons_append, List.nil_append, List.cons_lt_cons_iff] <;> refine ⟨?_, ?_, by omega⟩ <;> constructor <;> first
    | exact fun h => h.elim (fun h => by omega) (fun h => by have := h.1; omega)
    | (intro h; left; omega)
theorem rank_inj {a b : Nat} (ha : a < 256) (hb : b < 256) (h : rank1 a = rank1 b) : enc1 a = enc1 b := by
  have := sp_rank_fin ⟨a, ha⟩
  have h2 := sp_rank_fin ⟨b, hb⟩
  simp only at this h2
  rw [← this, ← h2, h]
theorem rows_lt (u v : List Nat) (huv : u < v) : ∀ (xs ys : List Nat), (∀ o ∈ xs, o < 256) → (∀ o ∈ ys, o < 256) →
    (xs.flatMap enc1 ++ 63 :: u < ys.flatMap enc1 ++ 63 :: v ↔ above (xs.map rank1 ++ [256 * 63]) (ys.map rank1 ++ [256 * 63]) = false)
  | [], [], _, _ => by simp [above, huv]
  | [], b :: ys, _, hy => by
    have hb := hy b (List.mem_cons_self ..)
    have h := end_lt hb u (ys.flatMap enc1 ++ 63 :: v)
    simp only [List.flatMap_nil, List.flatMap_cons, List.append_assoc, List.nil_append, List.map_nil, List.map_cons, List.cons_append, above]
    rw [h.1, if_neg (fun q => h.2.2 q.symm)]
    have := h.2.2
    simp; omega
  | a :: xs, [], hx, _ => by
    have ha := hx a (List.mem_cons_self ..)
    have h := end_lt ha v (xs.flatMap enc1 ++ 63 :: u)
    simp only [List.flatMap_nil, List.flatMap_cons, List.append_assoc, List.nil_append, List.map_nil, List.map_cons, List.cons_append, above]
    rw [h.2.1, if_neg h.2.2]
    have := h.2.2
    simp; omega
  | a :: xs, b :: ys, hx, hy => by
    have ha := hx a (List.mem_cons_self ..)
    have hb := hy b (List.mem_cons_self ..)
    simp only [List.flatMap_cons, List.append_assoc, List.map_cons, List.cons_append, above]
    by_cases q : rank1 a = rank1 b
    · rw [if_pos q, rank_inj ha hb q, lt_pre]
      exact rows_lt u v huv xs ys (fun o ho => hx o (List.mem_cons_of_mem _ ho)) (fun o ho => hy o (List.mem_cons_of_mem _ ho))
    · rw [if_neg q, two_lt ha hb _ _ q]
      simp; omega
def best (a b : List Nat) : List Nat := if a = [] then b else if a < b then b else a
theorem best_len (cs x y : List Nat) (hx : ∀ o ∈ x, o < 256) (hy : ∀ o ∈ y, o < 256) :
    (best (spell cs (rankL x)) (spell cs (rankL y) ++ List.replicate ((spell cs (rankL x)).length + 1) 45)).length =
      if above (rankL x) (rankL y) then (spell cs (rankL x)).length else (spell cs (rankL y)).length + (spell cs (rankL x)).length + 1 := by
  by_cases h0 : x = []
  · subst h0
    simp [rankL, spell, best, above]
  · have hs : spell cs (rankL x) = [61, 63] ++ cs ++ [63, 113, 63] ++ (x.flatMap enc1 ++ 63 :: [61]) := by
      unfold spell; rw [if_neg (rankL_ne x h0), rankL_flat x hx h0]; simp
    have hne : spell cs (rankL x) ≠ [] := by rw [hs]; simp
    unfold best
    rw [if_neg hne]
    by_cases h1 : y = []
    · subst h1
      have e1 : spell cs (rankL []) = [] := by simp [rankL, spell]
      have e2 : above (rankL x) (rankL []) = true := by
        unfold rankL; rw [if_neg h0, if_pos rfl]
        cases x with
        | nil => exact absurd rfl h0
        | cons _ _ => rfl
      rw [e1, e2, if_pos rfl]
      rw [if_neg]
      rw [List.nil_append, List.replicate_succ, hs]
      simp only [List.cons_append, List.cons_lt_cons_iff]
      exact fun h => h.elim (fun h => by omega) (fun h => by have := h.1; omega)
    · have ht : spell cs (rankL y) = [61, 63] ++ cs ++ [63, 113, 63] ++ (y.flatMap enc1 ++ 63 :: [61]) := by
        unfold spell; rw [if_neg (rankL_ne y h1), rankL_flat y hy h1]; simp
      have key : spell cs (rankL x) < spell cs (rankL y) ++ List.replicate ((spell cs (rankL x)).length + 1) 45 ↔ above (rankL x) (rankL y) = false := by
        generalize (spell cs (rankL x)).length = n
        rw [hs, ht, List.append_assoc _ _ (List.replicate _ _), lt_pre, List.append_assoc]
        have := rows_lt [61] ([61] ++ List.replicate (n + 1) 45) (by simp [List.replicate_succ]) x y hx hy
        unfold rankL
        rw [if_neg h0, if_neg h1]
        exact this
      cases hab : above (rankL x) (rankL y) with
      | true =>
        rw [if_neg (by rw [key, hab]; simp), if_pos rfl]
      | false =>
        rw [if_pos (key.mpr hab), if_neg (by simp)]
        simp; omega
end Mine
end
section
open PySem PySem.W PyProof.Rows PySem.Calls
set_option maxRecDepth 100000
set_option maxHeartbeats 1000000
namespace Mine
section
variable {w : World} {A : Around} {s : Shared} {E : Value → Shared → Prop} {Q : Value → Shared → Prop} {env : Env} {x kn : Str} {np pos kp : Pos} {e e' : Expr} {id : String}
theorem cBk (h : wpAny (model PR w) A (eval (.Name x np) env) (fun f s₁ => f = .builtin id ∧ wpAny (model PR w) A (eval e env) (fun v s₂ => wpAny (model PR w) A (eval e' env) (fun v' s₃ => wpAny (model PR w) A (call (.builtin id) [v] [(kn, v')]) Q E s₃) E s₂) E s₁) E s)
    (hs : starEach [e] env = [(false, eval e env)] := by rfl) :
    wpAny (model PR w) A (eval (.Call (.Name x np) [e] [⟨some kn, e', kp⟩] pos) env) Q E s := by
  show wpAny (model PR w) A (do callWith pos (← eval (.Name x np) env) [] (backTo pos (starEach [e] env)) (backToKw pos (keywordEach [⟨some kn, e', kp⟩] env))) Q E s
  refine wpAny_bind (wpAny_mono h ?_ fun _ _ x => x)
  rintro f s₁ ⟨rfl, h₁⟩
  refine callWith_kw (rest := []) ?_ (by rw [hs]; rfl) (by rw [hs]; rfl)
  rw [hs]
  refine spliced_cons ?_
  refine wpAny_mono h₁ ?_ fun _ _ x => x
  intro v s₂ h₂
  refine spliced_nil ?_
  refine kws_cons ?_
  refine wpAny_mono h₂ ?_ fun _ _ x => x
  intro v' s₃ h₃
  exact kws_nil h₃
theorem cT2 (h : wpAny (model PR w) A (eval (.Name x np) env) (fun f s₁ => f = .type id ∧ wpAny (model PR w) A (eval e env) (fun v s₂ => wpAny (model PR w) A (eval e' env) (fun v' s₃ => wpAny (model PR w) A (call (.type id) [v, v']) Q E s₃) E s₂) E s₁) E s)
    (hs : starEach [e, e'] env = [(false, eval e env), (false, eval e' env)] := by rfl) :
    wpAny (model PR w) A (eval (.Call (.Name x np) [e, e'] [] pos) env) Q E s := by
  show wpAny (model PR w) A (do callWith pos (← eval (.Name x np) env) [] (backTo pos (starEach [e, e'] env)) (backToKw pos (keywordEach [] env))) Q E s
  rw [hs]
  refine wpAny_bind (wpAny_mono h ?_ fun _ _ x => x)
  rintro f s₁ ⟨rfl, h₁⟩
  exact PySem.callWith_type rfl (Calls.evalArgs_plain (Calls.spliced_cons (wpAny_mono h₁ (fun _ _ h₁ => Calls.spliced_cons (wpAny_mono h₁ (fun _ _ h₂ => Calls.spliced_nil h₂) fun _ _ e => e)) fun _ _ e => e)))
end
/-- the two words of a table, and a None between them or not -/
structure Tab (w : World) (h : Heap) (d : Addr) (a b : List Nat) (nn : Bool) : Prop where
  at_ : ∃ od es ep, h.get? d = some od ∧ od.cls = .type "dict" ∧ od.dict = none ∧ od.data = .dict es ep ∧ (∃ ta tb, es.toList.map (·.val) = .str (S a) ta :: (if nn then [.none, .str (S b) tb] else [.str (S b) tb]))
  dict : ∃ kvs, h.DictOf (intKind PR w) d kvs
  la : a.length ≤ 50000
  lb : b.length ≤ 50000
  nb : b ≠ []
  big : (d == sysModules) = false
theorem tru_S (l : List Nat) (t : Tok) : tru (.str (S l) t) = !l.isEmpty := by
  show decide ((S l).length ≠ 0) = _
  rw [S_length]
  cases l <;> simp
theorem filter_vals (es : List DictEntry) : (es.filter trEn).map (·.val) = (es.map (·.val)).filter tru := by
  rw [List.filter_map]; rfl
theorem any_vals (es : List DictEntry) : (es.any fun e => isNone e.val) = (es.map (·.val)).any isNone := by
  rw [List.any_map]; rfl
theorem tab_filter {a b : List Nat} {nn : Bool} {ta tb : Tok} {es : List DictEntry} (nb : b ≠ []) (h : es.map (·.val) = .str (S a) ta :: (if nn then [.none, .str (S b) tb] else [.str (S b) tb])) :
    (es.filter trEn).map (·.val) = if a = [] then [.str (S b) tb] else [.str (S a) ta, .str (S b) tb] := by
  have hb : tru (.str (S b) tb) = true := by rw [tru_S]; cases b; exact absurd rfl nb; rfl
  have hn : tru .none = false := rfl
  rw [filter_vals, h]
  have ht : (if nn then [Value.none, .str (S b) tb] else [.str (S b) tb]).filter tru = [.str (S b) tb] := by
    cases nn <;> simp [hb, hn]
  by_cases ha : a = []
  · subst ha
    rw [List.filter_cons_of_neg (by rw [tru_S]; simp), if_pos rfl, ht]
  · rw [List.filter_cons_of_pos (by rw [tru_S]; cases a; exact absurd rfl ha; rfl), if_neg ha, ht]
theorem tab_none {a b : List Nat} {nn : Bool} {ta tb : Tok} {es : List DictEntry} (h : es.map (·.val) = .str (S a) ta :: (if nn then [.none, .str (S b) tb] else [.str (S b) tb])) :
    (es.any fun e => isNone e.val) = nn := by
  rw [any_vals, h]
  cases nn <;> rfl
theorem max_tab {w : World} {A : Around} {s : Shared} {E : Value → Shared → Prop} {Q : Value → Shared → Prop} {f it d : Addr} {es : Array DictEntry} {ep : Nat} {od : Obj} {a b : List Nat} {ta tb : Tok} {dv : Value}
    (hh : A.handled = none) (hf : s.heap.get? f = some (filterObj it)) (hit : s.heap.IsValIter it d 0 es.size ep) (hod : s.heap.get? d = some od) (hdd : od.data = .dict es ep) (hv : ∀ e ∈ es.toList, ValOk e.val) (hfi : f ≠ it) (hdi : d ≠ it)
    (hvals : (es.toList.filter trEn).map (·.val) = if a = [] then [.str (S b) tb] else [.str (S a) ta, .str (S b) tb])
    (h : ∀ t h' tk, (∀ x o, x ≠ it → s.heap.get? x = some o → h'.get? x = some o) → Q (.str (S (best a b)) t) { s with heap := h', toks := tk }) :
    wpAny (model PR w) A (call (.builtin "max") [.ref f] [(Str.ofString "default", dv)]) Q E s := by
  have hP : ∀ (i : Nat) (v : Value), (∃ e : DictEntry, (es.toList.filter trEn)[i]? = some e ∧ v = e.val) → (if a = [] then [Value.str (S b) tb] else [.str (S a) ta, .str (S b) tb])[i]? = some v := by
    rintro i v ⟨e, he, rfl⟩
    rw [← hvals, List.getElem?_map, he]; rfl
  have hlen : (es.toList.filter trEn).length = (if a = [] then [Value.str (S b) tb] else [.str (S a) ta, .str (S b) tb]).length := by rw [← hvals, List.length_map]
  have hS : ∀ l : List Nat, (S l).cps.toList = l := fun l => by simp [S]
  refine call_max_kw (A := A) ?_
  refine pyIter_filter hf ?_
  by_cases ha : a = []
  · rw [if_pos ha] at hP hlen
    refine ⟨f, _, _, _, _, _, fun _ _ => decide (b < b), rfl, Walks.filter (A := A.in1) hh hdd hv hfi hdi, ⟨0, hit, hod, hf, by simp⟩, ?_, by rw [hlen]; simp, ?_, ?_⟩
    · intro x hx
      rcases List.mem_cons.mp hx with rfl | hx
      · obtain ⟨o, ho, _⟩ := hit; exact Heap.lt_size ho
      · rcases List.mem_cons.mp hx with rfl | hx
        · exact Heap.lt_size hod
        · rw [List.mem_singleton.mp hx]; exact Heap.lt_size hf
    · intro i j vi vj s' Q' E' hi hj hQ
      have h1 := hP i vi hi
      have h2 := hP j vj hj
      have e1 : vi = .str (S b) tb := by rcases i with _ | i <;> simp at h1; exact h1.symm
      have e2 : vj = .str (S b) tb := by rcases j with _ | j <;> simp at h2; exact h2.symm
      subst e1; subst e2
      refine PySem.P.gt_str ?_
      rw [hS]; exact hQ
    · intro v h' tk hv' hk
      rw [hlen] at hv'
      have h1 := hP _ v hv'
      have e1 : v = .str (S (best a b)) tb := by
        have : argBest (fun _ _ => decide (b < b)) ([Value.str (S b) tb].length - 1) = 0 := rfl
        rw [this] at h1
        unfold best; rw [if_pos ha]
        simpa using h1.symm
      subst e1
      exact h _ h' tk fun x o hx e => hk x o (by simpa using hx) e
  · rw [if_neg ha] at hP hlen
    refine ⟨f, _, _, _, _, _, fun i j => decide (([a, b].getD j []) < ([a, b].getD i [])), rfl, Walks.filter (A := A.in1) hh hdd hv hfi hdi, ⟨0, hit, hod, hf, by simp⟩, ?_, by rw [hlen]; simp, ?_, ?_⟩
    · intro x hx
      rcases List.mem_cons.mp hx with rfl | hx
      · obtain ⟨o, ho, _⟩ := hit; exact Heap.lt_size ho
      · rcases List.mem_cons.mp hx with rfl | hx
        · exact Heap.lt_size hod
        · rw [List.mem_singleton.mp hx]; exact Heap.lt_size hf
    · intro i j vi vj s' Q' E' hi hj hQ
      have key : ∀ (i : Nat) (v : Value), [Value.str (S a) ta, .str (S b) tb][i]? = some v → ∃ t, v = .str (S ([a, b].getD i [])) t := by
        intro i v h
        rcases i with _ | _ | i
        · exact ⟨ta, by simpa using h.symm⟩
        · exact ⟨tb, by simpa using h.symm⟩
        · simp at h
      have h1 := key i vi (hP i vi hi)
      have h2 := key j vj (hP j vj hj)
      obtain ⟨t1, e1⟩ := h1
      obtain ⟨t2, e2⟩ := h2
      subst e1; subst e2
      refine PySem.P.gt_str ?_
      rw [hS, hS]; exact hQ
    · intro v h' tk hv' hk
      rw [hlen] at hv'
      have h1 := hP _ v hv'
      have e0 : argBest (fun i j => decide (([a, b].getD j []) < ([a, b].getD i []))) ([Value.str (S a) ta, .str (S b) tb].length - 1) = if a < b then 1 else 0 := by
        show (if decide (a < b) then 1 else 0) = _
        by_cases q : a < b <;> simp [q]
      rw [e0] at h1
      have e1 : ∃ t, v = .str (S (best a b)) t := by
        unfold best; rw [if_neg ha]
        by_cases q : a < b
        · rw [if_pos q] at h1 ⊢; exact ⟨tb, by simpa using h1.symm⟩
        · rw [if_neg q] at h1 ⊢; exact ⟨ta, by simpa using h1.symm⟩
      obtain ⟨t, e1⟩ := e1
      subst e1
      exact h _ h' tk fun x o hx e => hk x o (by simpa using hx) e
end Mine
end
section
open PySem PySem.W PyProof.Rows PySem.Calls
set_option maxRecDepth 100000
set_option maxHeartbeats 1000000
namespace Mine
def viewObj (d : Addr) : Obj := { cls := .type "dict_values", data := .fields #[.ref d] }
theorem Tab.keeps {w : World} {h h' : Heap} {d : Addr} {a b : List Nat} {nn : Bool} (T : Tab w h d a b nn) (k : ∀ b o, h.get? b = some o → h'.get? b = some o) : Tab w h' d a b nn := by
  obtain ⟨od, es, ep, h1, h2⟩ := T.at_
  obtain ⟨kvs, hD⟩ := T.dict
  exact ⟨⟨od, es, ep, k _ _ h1, h2⟩, ⟨kvs, hD.at fun o e => k _ _ e⟩, T.la, T.lb, T.nb, T.big⟩
theorem values_of {w : World} {A : Around} {s : Shared} {E : Value → Shared → Prop} {Q : Value → Shared → Prop} {d : Addr} {a b : List Nat} {nn : Bool} (T : Tab w s.heap d a b nn)
    (h : Q (.ref s.heap.objs.size) { s with heap := s.heap.push (viewObj d) }) : wpAny (model PR w) A (call (.builtin "dict.values") [.ref d]) Q E s := by
  obtain ⟨kvs, hD⟩ := T.dict
  exact call_meetsIn PySem.F.slot_dict_values hD.typeIs PySem.F.entry_dict_values (PySem.F.args_dict_values_1 _) (meets_dict_values (intKind PR w) d T.big) ⟨⟨kvs, hD⟩, h⟩
theorem in_view' {w : World} {A : Around} {s : Shared} {E : Value → Shared → Prop} {v d : Addr} {es : Array DictEntry} {ep : Nat} {od : Obj} {nn : Bool} {Q : Value → Shared → Prop} (hn : (es.toList.any fun e => isNone e.val) = nn) (hh : A.handled = none) (hv : s.heap.IsValuesView v d) (hod : s.heap.get? d = some od) (hdd : od.data = .dict es ep) (hok : ∀ e ∈ es.toList, ValOk e.val)
    (h : ∀ h' tk, (∀ b o, s.heap.get? b = some o → h'.get? b = some o) → Q (.bool nn) { s with heap := h', toks := tk }) :
    wpAny (model PR w) A (compareOp .In .none (.ref v)) Q E s := in_view hh hv hod hdd hok (by rw [hn]; exact h)
theorem ite_b {c : Bool} {P P' : Prop} (h1 : c = true → P) (h2 : c = false → P') : if c = true then P else P' := by
  cases c
  · exact h2 rfl
  · exact h1 rfl
theorem noLen : ((Str.ofString "  --").length : Int) = 4 := by decide
theorem wid_a {nn : Bool} {l : Nat} {wd : Int} (hb : nn = true) (hw : wd = max 3 (l : Int)) (hlt : wd < ((Str.ofString "  --").length : Int)) : (if nn then max 4 (l : Int) else max 3 (l : Int)) = ((Str.ofString "  --").length : Int) := by
  rw [noLen] at *; rw [if_pos hb]; omega
theorem wid_b {nn : Bool} {l : Nat} {wd : Int} (hb : nn = false) (hw : wd = max 3 (l : Int)) : (if nn then max 4 (l : Int) else max 3 (l : Int)) = wd := by
  rw [hb, hw]; rfl
theorem wid_c {nn : Bool} {l : Nat} {wd : Int} (hw : wd = max 3 (l : Int)) (hlt : ¬ wd < ((Str.ofString "  --").length : Int)) : (if nn then max 4 (l : Int) else max 3 (l : Int)) = wd := by
  rw [noLen] at hlt; split <;> omega
theorem c_width {w : World} {mg mb : Str → Option Value} {A : Around} {s : Shared} {E : Value → Shared → Prop} {Q : Value → Shared → Prop}
    (C : Cx w mg mb s.heap) (R : Rm 8 A) {d : Addr} {a b : List Nat} {nn : Bool} (T : Tab w s.heap d a b nn)
    (h : ∀ t s', Keeps s s' → Q (.int (if nn then max 4 ((best a b).length : Int) else max 3 ((best a b).length : Int)) t) s') :
    wpAny (model PR w) A (call (.ref 21) [.ref d]) Q E s := by
  have hob := T.at_
  obtain ⟨od, es, ep, hod, hcl, hdn, hdd, ta, tb, hvals⟩ := hob
  have hfv := tab_filter T.nb hvals
  have hnv := tab_none hvals
  have hv : ∀ e ∈ es.toList, ValOk e.val := by
    intro e he
    have hm : e.val ∈ es.toList.map (·.val) := List.mem_map_of_mem he
    rw [hvals] at hm
    have la := T.la
    have lb := T.lb
    rcases List.mem_cons.mp hm with q | q
    · exact .inr ⟨a, ta, q, by omega⟩
    · cases nn with
      | true =>
        rcases List.mem_cons.mp q with q | q
        · exact .inl q
        · exact .inr ⟨b, tb, List.mem_singleton.mp q, by omega⟩
      | false => exact .inr ⟨b, tb, List.mem_singleton.mp q, by omega⟩
  refine call_own C R rfl rfl rfl rfl rfl rfl rfl (by decide) ?_
  intro h₁ tk F R'
  have N : News s.heap s.heap.objs.size h₁ [] := News.nil
  have hm0 : (fun x => List.lookup x (([("linestarts" : Str)].zip [Value.ref d]).reverse)) "linestarts" = some (.ref d) := rfl
  refine wpAny_execs_cons ?_
  refine wpAny_If ?_
  refine wpAny_isTrue_Compare1 ?_
  refine nmL F rfl ?_
  refine wpAny_pure ?_
  refine is_ref_none ?_
  refine wpAny_truthy_bool ?_
  refine wpAny_execs_nil ?_
  refine wpAny_execs_cons ?_
  refine wpAny_Assign_Name ?_
  refine cBk (nmB F C rfl rfl ⟨rfl, ?_⟩)
  refine cT2 (nmB F C rfl rfl ⟨rfl, ?_⟩)
  refine wpAny_Constant_none ?_
  refine MethodCall_ ?_
  refine nmL F rfl ?_
  have hod₁ := F.keep _ _ hod
  refine getMethod_builtin ⟨od, hod₁, hcl⟩ PySem.F.plainAttrs_dict PySem.F.slot_dict_values PySem.F.type_dict_values (fun _ e => by cases e; exact ⟨od, hod₁, hdn⟩) ?_
  refine callWith_method0 ?_
  refine values_of (T.keeps F.keep) ?_
  have hod₂ : (h₁.push (viewObj d)).get? d = some od := Heap.get?_push_of_some _ hod₁
  refine call_filter (v := h₁.objs.size) (d := d) ⟨viewObj d, Heap.get?_push_size _ rfl, rfl, rfl⟩ hod₂ hdd ?_
  refine UnaryOp_ ?_
  refine wpAny_Constant_int ?_
  refine PyProof.Rows.neg_int ?_
  have hsz2 : (h₁.push (viewObj d)).objs.size ≠ ((h₁.push (viewObj d)).push (valIterObj d es.size ep)).objs.size := by simp
  have hlt2 : ∀ {x o}, h₁.get? x = some o → x ≠ (h₁.push (viewObj d)).objs.size := fun e => Nat.ne_of_lt (Heap.lt_size (Heap.get?_push_of_some (viewObj d) e))
  refine max_tab (es := es) (ep := ep) (it := (h₁.push (viewObj d)).objs.size) (d := d) (od := od) (a := a) (b := b) (ta := ta) (tb := tb) R'.hh (Heap.get?_push_size _ rfl) ⟨valIterObj d es.size ep, Heap.get?_push_of_some _ (Heap.get?_push_size _ rfl), rfl, rfl⟩ (Heap.get?_push_of_some _ (Heap.get?_push_of_some _ hod₂)) hdd hv (fun e => hsz2 e.symm) (hlt2 hod₁) hfv ?_
  intro tm h₃ tk₃ hk₃
  have hk₃' : ∀ x o, h₁.get? x = some o → h₃.get? x = some o := fun x o e => hk₃ x o (hlt2 e) (Heap.get?_push_of_some _ (Heap.get?_push_of_some _ (Heap.get?_push_of_some _ e)))
  have F₃ := F.grownK hk₃'
  have N₃ : News s.heap s.heap.objs.size h₃ [] := News.nil
  clear hk₃ hk₃' hsz2 hlt2 hod₂
  refine stN F₃ N₃ ?_
  intro h₄ F₄ N₄
  have hob : ∃ m', (m' "linestarts" = some (.ref d) ∧ m' "maxlineno" = some (.str (S (best a b)) tm)) ∧ Fr s.heap s.heap.objs.size h₄ m' :=
    ⟨_, ⟨(if_neg (by decide)).trans rfl, if_pos rfl⟩, F₄⟩
  obtain ⟨m₅, ⟨e1, e2⟩, F₅⟩ := hob
  clear F₄
  refine wpAny_execs_cons ?_
  refine wpAny_If ?_
  refine wpAny_isTrue_Compare1 ?_
  refine nmL F₅ e2 ?_
  refine UnaryOp_ ?_
  refine wpAny_Constant_int ?_
  refine PyProof.Rows.neg_int ?_
  refine EqMixed.eq_str_int ?_
  refine wpAny_truthy_bool ?_
  refine wpAny_execs_nil ?_
  refine wpAny_execs_cons ?_
  refine wpAny_Assign_Name ?_
  refine cB2 (nmB F₅ C rfl rfl ⟨rfl, ?_⟩)
  refine wpAny_Constant_int ?_
  refine cB1 (nmB F₅ C rfl rfl ⟨rfl, ?_⟩)
  refine cT1 (nmB F₅ C rfl rfl ⟨rfl, ?_⟩)
  refine nmL F₅ e2 ?_
  refine PySem.P.str_of_str ?_
  have hbl : (best a b).length ≤ 50000 := by have := T.la; have := T.lb; unfold best; split; assumption; split <;> assumption
  refine PySem.P.len_str (by rw [S_length]; omega) ?_
  refine max_two_N R'.hh F₅ N₄ ?_
  intro h₆ tk₆ F₆ N₆
  refine stN F₆ N₆ ?_
  intro h₇ F₇' N₇
  have hob2 : ∃ m' wd tw, (wd = max 3 ((best a b).length : Int) ∧ m' "linestarts" = some (.ref d) ∧ m' "lineno_width" = some (.int wd tw)) ∧ Fr s.heap s.heap.objs.size h₇ m' :=
    ⟨_, _, _, ⟨by rw [S_length]; split <;> omega, (if_neg (by decide)).trans e1, if_pos rfl⟩, F₇'⟩
  obtain ⟨m₇, wd, tw, ⟨hwd, g1, g2⟩, F₇⟩ := hob2
  clear F₇'
  refine wpAny_execs_cons ?_
  refine wpAny_If ?_
  refine isTrue_and ?_
  refine wpAny_isTrue_Compare1 ?_
  refine nmL F₇ g2 ?_
  refine cB1 (nmB F₇ C rfl rfl ⟨rfl, ?_⟩)
  refine nmK F₇ C rfl ?_
  refine PySem.P.len_str (by decide) ?_
  refine PyProof.Rows.lt_int ?_
  refine wpAny_truthy_bool ?_
  refine split_dec (fun hlt => ?_) (fun hlt => ?_)
  · refine isTrue_and ?_
    refine wpAny_isTrue_Compare1 ?_
    refine wpAny_Constant_none ?_
    refine MethodCall_ ?_
    refine nmL F₇ g1 ?_
    have hod₇ := F₇.keep _ _ hod
    refine getMethod_builtin ⟨od, hod₇, hcl⟩ PySem.F.plainAttrs_dict PySem.F.slot_dict_values PySem.F.type_dict_values (fun _ e => by cases e; exact ⟨od, hod₇, hdn⟩) ?_
    refine callWith_method0 ?_
    refine values_of (T.keeps F₇.keep) ?_
    refine in_view' (d := d) hnv R'.hh ⟨viewObj d, Heap.get?_push_size _ rfl, rfl, rfl⟩ (Heap.get?_push_of_some _ hod₇) hdd hv ?_
    intro h₈ tk₈ hk₈
    refine wpAny_truthy_bool ?_
    have F₈ := F₇.grownK (fun x o e => hk₈ x o (Heap.get?_push_of_some _ e))
    clear hk₈
    refine ite_b (fun hb => ?_) (fun hb => ?_)
    · refine isTrue_and_nil ?_
      refine wpAny_execs_cons ?_
      refine wpAny_Assign_Name ?_
      refine cB1 (nmB F₈ C rfl rfl ⟨rfl, ?_⟩)
      refine nmK F₈ C rfl ?_
      refine PySem.P.len_str (by decide) ?_
      refine stN F₈ (News.nil (L := s.heap.objs.size)) ?_
      intro h₉ F₉ N₉
      refine wpAny_execs_nil ?_
      refine wpAny_execs_cons ?_
      refine wpAny_Return_some ?_
      refine nmL F₉ (if_pos rfl) ?_
      refine (wid_a hb hwd hlt ▸ h) _ _ ⟨h₉, _, rfl, F₉.keep⟩
    · refine wpAny_execs_nil ?_
      refine wpAny_execs_cons ?_
      refine wpAny_Return_some ?_
      refine nmL F₈ g2 ?_
      refine (wid_b hb hwd ▸ h) _ _ ⟨h₈, _, rfl, F₈.keep⟩
  · refine wpAny_execs_nil ?_
    refine wpAny_execs_cons ?_
    refine wpAny_Return_some ?_
    refine nmL F₇ g2 ?_
    refine (wid_c hwd hlt ▸ h) _ _ ⟨h₇, _, rfl, F₇.keep⟩
end Mine
end
section
open PySem PySem.W PyProof.Rows PySem.Calls
set_option maxRecDepth 100000
set_option maxHeartbeats 1000000
namespace Mine
section
variable {w : World} {A : Around} {s : Shared} {h₀ : Heap} {L : Addr} {m : Str → Option Value} {env : Env}
/-- a comprehension, turn by turn, with a ledger -/
theorem rest_ind {elt : Expr} {x : Str} {scope : Scope} {cl : List (Str × Addr)} {S : List (Addr × Obj) → Prop} {P : Nat → Value → Prop} {Fin : List Value → List (Addr × Obj) → Prop} {n : Nat}
    (J : Nat → List Value → List (Addr × Obj) → Prop)
    (step : ∀ i ys news, i < n → J i ys news → ∀ v I oI C oC D m₂ h tk (E' : Value → Shared → Prop), P i v → LCg.NsObj oC m₂ → m₂ x = some v → Fr h₀ L h m → News h₀ L h ((I, oI) :: (C, oC) :: (D, LCg.lst ys) :: news) → LCg.Off3 I C D news → ((@Ne Nat I C) ∧ (@Ne Nat I D) ∧ (@Ne Nat C D)) →
      wpAny (model PR w) A (eval elt (compEnvC scope cl C env)) (LCg.CompEnd h₀ L m { s with heap := h, toks := tk } I oI C oC D (LCg.lst ys) S (fun y news' => J (i + 1) (ys ++ [y]) news')) E' { s with heap := h, toks := tk })
    (fin : ∀ ys news, J n ys news → Fin ys news) :
    ∀ (k i : Nat) (ys : List Value) (news : List (Addr × Obj)), i + k = n → J i ys news → LCg.CompRest PR w A h₀ L m env elt x scope cl s S P Fin k i ys news := by
  intro k
  induction k with
  | zero =>
    intro i ys news hi j
    have : i = n := by omega
    subst this
    exact LCg.CompRest.zero (fin ys news j)
  | succ k ih =>
    intro i ys news hi j
    refine LCg.CompRest.succ ?_
    intro v I oI C oC D m₂ h tk E' a1 a2 a3 a4 a5 a6 a7
    refine wpAny_mono (step i ys news (by omega) j v I oI C oC D m₂ h tk E' a1 a2 a3 a4 a5 a6 a7) ?_ fun _ _ e => e
    rintro y s' ⟨h', tk', news', b1, b2, b3, b4, b5, b6⟩
    exact ⟨h', tk', news', b1, b2, b3, b4, b5, ih (i + 1) (ys ++ [y]) news' (by omega) b6⟩
end
/-- a list of ints, as the ledger bears it -/
def LI (rl : List (Addr × Obj)) (v : Value) (ns : List Int) : Prop := ∃ a o vs, v = .ref a ∧ (a, o) ∈ rl ∧ o.cls = .type "list" ∧ (∃ n, o.data = .seq vs.toArray n) ∧ IntsAre vs ns
theorem LI.mono {rl rl' : List (Addr × Obj)} {v : Value} {ns : List Int} (h : LI rl v ns) (hr : ∀ p ∈ rl, p ∈ rl') : LI rl' v ns := by
  obtain ⟨a, o, vs, h1, h2, h3, h4, h5⟩ := h
  exact ⟨a, o, vs, h1, hr _ h2, h3, h4, h5⟩
theorem LI.list {rl : List (Addr × Obj)} {v : Value} {ns : List Int} {h₀ h : Heap} {L : Addr} (x : LI rl v ns) (N : News h₀ L h rl) : ∃ a vs, v = .ref a ∧ h.IsList a vs.toArray ∧ IntsAre vs ns := by
  obtain ⟨a, o, vs, h1, h2, h3, h4, h5⟩ := x
  exact ⟨a, vs, h1, ⟨o, (N _ h2).1, h3, h4⟩, h5⟩
/-- what is new to a heap that has grown is new to its ground -/
theorem new_base {h₀ h : Heap} {L : Addr} {m : Str → Option Value} (F : Fr h₀ L h m) {a : Addr} (ha : h.get? a = none) : a ≠ L ∧ h₀.get? a = none := by
  constructor
  · rintro rfl
    obtain ⟨o, _, _, e, _⟩ := F.ns
    rw [ha] at e; cases e
  · cases e : h₀.get? a with
    | none => rfl
    | some o => rw [F.keep a o e] at ha; cases ha
/-- the ledger of the rows -/
theorem rows_ledger {g h : Heap} : ∀ (refs : List Value), (∀ v ∈ refs, GoodRow g h v) → ∃ (oss : List (List Nat)) (rl : List (Addr × Obj)), oss.length = refs.length ∧ (∀ p ∈ rl, h.get? p.1 = some p.2 ∧ g.get? p.1 = none) ∧
    (∀ os ∈ oss, os.length < 100 ∧ ∀ o ∈ os, o < 256) ∧ ∀ (i : Nat) (v : Value) (os : List Nat), refs[i]? = some v → oss[i]? = some os → LI rl v (zs os)
  | [], _ => ⟨[], [], rfl, by simp, by simp, by simp⟩
  | v :: refs, hv => by
    obtain ⟨oss, rl, e1, e2, e3, e4⟩ := rows_ledger refs fun v hm => hv v (List.mem_cons_of_mem _ hm)
    obtain ⟨a, vs, os, rfl, ⟨o, ho, hc, hd⟩, hi, hl, h256, hn⟩ := hv v List.mem_cons_self
    refine ⟨os :: oss, (a, o) :: rl, by simp [e1], ?_, ?_, ?_⟩
    · intro p hp
      rcases List.mem_cons.mp hp with q | q
      · rw [q]; exact ⟨ho, hn⟩
      · exact e2 p q
    · intro x hx
      rcases List.mem_cons.mp hx with q | q
      · rw [q]; exact ⟨hl, h256⟩
      · exact e3 x q
    · intro i v' os' h1 h2
      cases i with
      | zero =>
        simp at h1 h2; subst h1; subst h2
        exact ⟨a, o, vs, rfl, .head _, hc, hd, hi⟩
      | succ i =>
        simp at h1 h2
        exact (e4 i v' os' h1 h2).mono fun p hp => .tail _ hp
theorem rank_ok (n : Fin 256) : decide (0 ≤ rank1 n.val ∧ rank1 n.val < 256 * 128) = true := by revert n; decide +kernel
theorem rankL_ok {os : List Nat} (h : ∀ o ∈ os, o < 256) : ∀ r ∈ rankL os, RankOk r := by
  intro r hr
  unfold rankL at hr
  split at hr
  · cases hr
  · rcases List.mem_append.mp hr with q | q
    · obtain ⟨o, ho, rfl⟩ := List.mem_map.mp q
      have := rank_ok ⟨o, h o ho⟩
      exact of_decide_eq_true (p := 0 ≤ rank1 o ∧ rank1 o < 256 * 128) this
    · rw [List.mem_singleton.mp q]; exact ⟨by decide, by decide⟩
theorem rankL_len (os : List Nat) : (rankL os).length ≤ os.length + 1 := by unfold rankL; split <;> simp
theorem spell_len (cs : List Nat) (rs : List Int) : (spell cs rs).length ≤ cs.length + 3 * rs.length + 6 := by
  have := flat_len rs
  unfold spell; split
  · simp
  · simp only [List.length_append, List.length_cons, List.length_nil]; omega
theorem bytes_zs (os : List Nat) (h : ∀ o ∈ os, o < 256) : ∃ bs : List UInt8, byteArr (zs os) = bs.toArray ∧ bs.map (·.toNat) = os ∧ bs.length = os.length := by
  refine ⟨(zs os).map fun n => n.toNat.toUInt8, rfl, ?_, by simp [zs]⟩
  induction os with
  | nil => rfl
  | cons o os ih =>
    have h1 := ih fun x hx => h x (List.mem_cons_of_mem _ hx)
    have h2 := h o List.mem_cons_self
    simp only [zs, List.map_cons] at h1 ⊢
    rw [h1]
    congr 1
    simp [Nat.toUInt8]
    omega
noncomputable def lawFn (w : World) : List Stmt × Scope := match (KF w).lookup 83 with
  | some ⟨_, _, .func fd, _⟩ => (match fd.body with | .stmts b => b | _ => [], fd.scope)
  | _ => ([], default)
theorem enter_law {w : World} {A : Around} {s : Shared} {E : Value → Shared → Prop} {Q : Flow → Shared → Prop} {L fa : Addr} {ccd : Value} {name : Str} {params : Arguments} {body : List Stmt} {scope : Scope} {pm cd doc oc : Value} {od : Option Addr} {osl : Array (Option Value)}
    (ho : (KF w).lookup 83 = some ⟨oc, od, .func (docDef name params body scope pm cd doc), osl⟩)
    (h : wpAny (model PR w) (A.deeper (envOfC "law" scope L fa ccd)) (execs body (envOfC "law" scope L fa ccd)) Q E s) :
    wpAny (model PR w) (A.deeper (envOfC "law" (lawFn w).2 L fa ccd)) (execs (lawFn w).1 (envOfC "law" (lawFn w).2 L fa ccd)) Q E s := by
  have e : lawFn w = (body, scope) := by unfold lawFn; rw [ho]; rfl
  rw [e]; exact h
end Mine
end
section
open PySem PySem.W PyProof.Rows PySem.Calls
set_option maxRecDepth 100000
set_option maxHeartbeats 1000000
namespace Mine
section
variable {w : World} {A : Around} {s : Shared} {E : Value → Shared → Prop} {Q : Value → Shared → Prop} {env : Env} {x : Str} {np pos : Pos} {e e' : Expr} {f : Addr} {oc : Value} {od : Option Addr} {fd : FuncData} {osl : Array (Option Value)}
theorem cD1 (hl : (KF w).lookup f = some ⟨oc, od, .func fd, osl⟩)
    (h : wpAny (model PR w) A (eval (.Name x np) env) (fun fv s₁ => fv = .ref f ∧ wpAny (model PR w) A (eval e env) (fun v s₂ => (KF w).In s₂.heap ∧ wpAny (model PR w) A (call (.ref f) [v]) Q E s₂) E s₁) E s)
    (hs : starEach [e] env = [(false, eval e env)] := by rfl) :
    wpAny (model PR w) A (eval (.Call (.Name x np) [e] [] pos) env) Q E s := by
  show wpAny (model PR w) A (do callWith pos (← eval (.Name x np) env) [] (backTo pos (starEach [e] env)) (backToKw pos (keywordEach [] env))) Q E s
  refine wpAny_bind (wpAny_mono h ?_ fun _ _ x => x)
  rintro fv s₁ ⟨rfl, h₁⟩
  refine callWith_def (o := ⟨oc, od, .func fd, osl⟩) (rest := []) rfl ?_ (by rw [hs]; rfl)
  rw [hs]
  refine spliced_cons (wpAny_mono h₁ ?_ fun _ _ e => e)
  rintro v s₂ ⟨X, h₂⟩
  exact spliced_nil ⟨X f _ hl, h₂⟩
theorem cD2 (hl : (KF w).lookup f = some ⟨oc, od, .func fd, osl⟩)
    (h : wpAny (model PR w) A (eval (.Name x np) env) (fun fv s₁ => fv = .ref f ∧ wpAny (model PR w) A (eval e env) (fun v s₂ => wpAny (model PR w) A (eval e' env) (fun v' s₃ => (KF w).In s₃.heap ∧ wpAny (model PR w) A (call (.ref f) [v, v']) Q E s₃) E s₂) E s₁) E s)
    (hs : starEach [e, e'] env = [(false, eval e env), (false, eval e' env)] := by rfl) (hs2 : starEach [e, e'] env = (false, eval e env) :: starEach [e'] env := by rfl) :
    wpAny (model PR w) A (eval (.Call (.Name x np) [e, e'] [] pos) env) Q E s := by
  show wpAny (model PR w) A (do callWith pos (← eval (.Name x np) env) [] (backTo pos (starEach [e, e'] env)) (backToKw pos (keywordEach [] env))) Q E s
  refine wpAny_bind (wpAny_mono h ?_ fun _ _ x => x)
  rintro fv s₁ ⟨rfl, h₁⟩
  refine callWith_def (o := ⟨oc, od, .func fd, osl⟩) (rest := [e']) rfl ?_ hs2
  rw [hs]
  refine spliced_cons (wpAny_mono h₁ ?_ fun _ _ e => e)
  intro v s₂ h₂
  refine spliced_cons (wpAny_mono h₂ ?_ fun _ _ e => e)
  rintro v' s₃ ⟨X, h₃⟩
  exact spliced_nil ⟨X f _ hl, h₃⟩
end
section
variable {w : World} {mg mb : Str → Option Value} {A : Around} {s : Shared} {E : Value → Shared → Prop} {Q : Value → Shared → Prop} {h₀ : Heap} {L : Addr} {m : Str → Option Value} {news : List (Addr × Obj)}
theorem newTuple_K {vs : List Value} (F : Fr h₀ L s.heap m) (N : News h₀ L s.heap news)
    (h : ∀ T h', Fr h₀ L h' m → News h₀ L h' ((T, { cls := .type "tuple", data := .seq vs.toArray }) :: news) → Q (.ref T) { s with heap := h' }) (hsz : vs.length ≤ sizeLine) : wpAny (model PR w) A (newTuple vs) Q E s :=
  newTuple_N F N (fun h' F' N' => h _ h' F' N') hsz
/-- names within a comprehension -/
theorem cnL {scope : Scope} {cl : List (Str × Addr)} {Ca : Addr} {env : Env} {x : Str} {pos : Pos} {v : Value} {m₂ : Str → Option Value} {oC : Obj} (hc : s.heap.get? Ca = some oC) (X : LCg.NsObj oC m₂) (hv : m₂ x = some v) (h : Q v s)
    (hk : (compEnvC scope cl Ca env).scope.kind = .function := by rfl) (hx : (compEnvC scope cl Ca env).kindOf x = some .local := by rfl) (hd : (x == ("__debug__" : Str)) = false := by decide) :
    wpAny (model PR w) A (eval (.Name x pos) (compEnvC scope cl Ca env)) Q E s := wpAny_Name (wpAny_loadName_local hk hx (X.ns hc) hv h) hd
theorem cnK {scope : Scope} {cl : List (Str × Addr)} {Ca : Addr} {env : Env} {x : Str} {pos : Pos} {v : Value} (C : Cx w mg mb s.heap) (e : nsIn (KF w) mainGlobals x = some (some v)) (h : Q v s)
    (hg : env.globals = mainGlobals := by rfl)
    (hk : (compEnvC scope cl Ca env).scope.kind = .function := by rfl) (hx : (compEnvC scope cl Ca env).kindOf x = some .globalImplicit := by rfl) (hd : (x == ("__debug__" : Str)) = false := by decide) :
    wpAny (model PR w) A (eval (.Name x pos) (compEnvC scope cl Ca env)) Q E s := Name_function_global hk hx (loadGlobal_global (env := compEnvC scope cl Ca env) (by show s.heap.Ns env.globals mg; rw [hg]; exact C.g) (mg_of C.X C.g e) h) hd
theorem cnB {scope : Scope} {cl : List (Str × Addr)} {Ca : Addr} {env : Env} {x : Str} {pos : Pos} {v : Value} (C : Cx w mg mb s.heap) (e : nsIn (KF w) mainGlobals x = some none) (hv : bootBuiltins x = some v) (h : Q v s) (hn : x ≠ "__name__" := by decide)
    (hg : env.globals = mainGlobals := by rfl) (hb : env.builtins = builtinsNs := by rfl)
    (hk : (compEnvC scope cl Ca env).scope.kind = .function := by rfl) (hx : (compEnvC scope cl Ca env).kindOf x = some .globalImplicit := by rfl) (hd : (x == ("__debug__" : Str)) = false := by decide) :
    wpAny (model PR w) A (eval (.Name x pos) (compEnvC scope cl Ca env)) Q E s :=
  Name_function_global hk hx (loadGlobal_builtin (env := compEnvC scope cl Ca env) (by show s.heap.Ns env.globals mg; rw [hg]; exact C.g) (mg_none_of C.X C.g e) (by show s.heap.Ns env.builtins mb; rw [hb]; exact C.b) ((C.builtins x hn).trans hv) h) hd
theorem mul_dash {n : Nat} {t u : Tok} (hn : 1 ≤ n) (hle : n ≤ 100000) (h : ∀ t' tk, Q (.str (S (List.replicate n 45)) t') { s with toks := tk }) :
    wpAny (model PR w) A (binaryOp .Mult (.str (S [45]) t) (.int (n : Int) u)) Q E s := by
  refine PySem.P.mul_str ?_ ?_ ?_ ?_
  · have h1 : ¬ (n : Int) < -(2 ^ 63 : Int) := by omega
    have h2 : ¬ (n : Int) ≥ 2 ^ 63 := by omega
    rw [decide_eq_false h1, decide_eq_false h2]; rfl
  · intro _ _ hgt
    have e : ((S [45]).length : Int) = 1 := by rw [S_length]; rfl
    rw [e] at hgt
    have : (1 : Int) ≤ (2 ^ 63 - 1) / (n : Int) := by
      rw [Int.le_ediv_iff_mul_le (by omega)]; omega
    omega
  · intro _ _
    rw [S_length]
    show PySem.Builtin.Str.tooLong (1 * (n : Int).toNat) = false
    unfold PySem.Builtin.Str.tooLong
    simp [sizeLine]
    omega
  · rw [if_neg (by omega)]
    by_cases q : n = 1
    · subst q
      rw [if_pos (by rfl)]
      exact h _ _
    · rw [if_neg (by simp [S, Str.length]; omega)]
      have e : (List.replicate (n : Int).toNat (S [45]).cps).foldl (· ++ ·) #[] = (List.replicate n 45).toArray := by
        have gen : ∀ (k : Nat) (acc : List Nat), (List.replicate k (S [45]).cps).foldl (· ++ ·) acc.toArray = (acc ++ List.replicate k 45).toArray := by
          intro k
          induction k with
          | zero => intro acc; simp
          | succ k ih =>
            intro acc
            rw [List.replicate_succ, List.foldl_cons]
            have : acc.toArray ++ (S [45]).cps = (acc ++ [45]).toArray := by simp [S]
            rw [this, ih]
            simp [List.replicate_succ]
        have := gen n []
        simpa using this
      show (Made.str ⟨_⟩).post Q s
      rw [e]
      exact ⟨by show (S (List.replicate n 45)).length ≤ sizeLine; rw [S_length, List.length_replicate]; unfold sizeLine; omega, h _ _⟩
end
theorem news_add {h₀ h h' : Heap} {L : Addr} {m : Str → Option Value} {news rl : List (Addr × Obj)} (F : Fr h₀ L h m) (N : News h₀ L h' news) (hr : ∀ p ∈ rl, h'.get? p.1 = some p.2 ∧ h.get? p.1 = none) : News h₀ L h' (rl ++ news) := by
  intro p hp
  rcases List.mem_append.mp hp with q | q
  · exact ⟨(hr p q).1, new_base F (hr p q).2⟩
  · exact N p q
theorem news_cons {h₀ h h' : Heap} {L : Addr} {m : Str → Option Value} {news : List (Addr × Obj)} {b : Addr} {o : Obj} (F : Fr h₀ L h m) (N : News h₀ L h' news) (hb : h'.get? b = some o) (hn : h.get? b = none) : News h₀ L h' ((b, o) :: news) :=
  news_add (rl := [(b, o)]) F N (by intro p hp; rw [List.mem_singleton.mp hp]; exact ⟨hb, hn⟩)
theorem seq_next {w : World} {A : Around} {s : Shared} {E : Value → Shared → Prop} {Q : Flow → Shared → Prop} {env : Env} {st : Stmt} {rest : List Stmt} (R : Shared → Prop)
    (h : wpAny (model PR w) A (exec st env) (fun f s₁ => f = .next ∧ R s₁) E s) (k : ∀ s₁, R s₁ → wpAny (model PR w) A (execs rest env) Q E s₁) : wpAny (model PR w) A (execs (st :: rest) env) Q E s := by
  refine wpAny_execs_cons (wpAny_mono h ?_ fun _ _ e => e)
  rintro f s₁ ⟨rfl, hr⟩
  exact k s₁ hr
theorem src_led {w : World} {A : Around} {h₀ : Heap} {L : Addr} {m : Str → Option Value} {env : Env} {elt : Expr} {x : Str} {scope : Scope} {cl : List (Str × Addr)} {Fin : Shared → List Value → List (Addr × Obj) → Prop} {ax : Addr} {its : Array Value} {news : List (Addr × Obj)} {s₁ : Shared} {o : Obj}
    (hh : A.handled = none) (F : Fr h₀ L s₁.heap m) (N : News h₀ L s₁.heap news) (hm : (ax, o) ∈ news) (hc : o.cls = .type "list") (hd : ∃ n, o.data = .seq its n) (hsz : its.size ≤ sizeLine)
    (h : ∀ g, LCg.CompRest PR w A h₀ L m env elt x scope cl { s₁ with heap := g } (LCg.SrcAt h₀ ax its) (fun i v => its[i]? = some v) (Fin { s₁ with heap := g }) its.size 0 [] news) :
    LCg.CompSrc PR w A h₀ L m env elt x scope cl Fin (.ref ax) s₁ := .inl ⟨ax, its, news, rfl, hh, F, N, .inr ⟨o, hm, hc, hd⟩, hsz, fun _ ⟨g, e⟩ => e ▸ h g⟩
theorem off_new {I Ca D b : Addr} {oI oC oD ob : Obj} {h₀ h : Heap} {L : Addr} {news : List (Addr × Obj)} (N : News h₀ L h ((I, oI) :: (Ca, oC) :: (D, oD) :: news)) (off : LCg.Off3 I Ca D news) (hb : h.get? b = none) : LCg.Off3 I Ca D ((b, ob) :: news) := by
  have ne : ∀ {x : Addr} {o : Obj}, h.get? x = some o → @Ne Nat b x := fun e q => by rw [← q, hb] at e; cases e
  exact ⟨⟨ne (N _ (.head _)).1, ne (N _ (.tail _ (.head _))).1, ne (N _ (.tail _ (.tail _ (.head _)))).1⟩, off⟩
theorem sub_new {p1 p2 p3 p4 : Addr × Obj} {nw : List (Addr × Obj)} : ∀ p ∈ p1 :: p2 :: p3 :: p4 :: nw, p ∈ p4 :: p1 :: p2 :: p3 :: nw := by
  intro p hp
  simp only [List.mem_cons] at hp ⊢
  rcases hp with h | h | h | h | h <;> simp [h]
theorem snoc_at {α β : Type} {ys : List α} {y : α} {xs : List β} {i : Nat} {P : α → β → Prop} (hl : ys.length = i) (h : ∀ (j : Nat) (v : α) (o : β), ys[j]? = some v → xs[j]? = some o → P v o) (hy : ∀ o, xs[i]? = some o → P y o) :
    ∀ (j : Nat) (v : α) (o : β), (ys ++ [y])[j]? = some v → xs[j]? = some o → P v o := by
  intro j v o h1 h2
  rcases Nat.lt_trichotomy j ys.length with q | q | q
  · exact h j v o (by rwa [List.getElem?_append_left q] at h1) h2
  · subst q
    rw [List.getElem?_append_right (Nat.le_refl _)] at h1
    simp at h1; subst h1
    rw [hl] at h2
    exact hy o h2
  · rw [List.getElem?_eq_none (by simp; omega)] at h1; cases h1
theorem c_encode' {w : World} {mg mb : Str → Option Value} {A : Around} {s : Shared} {E : Value → Shared → Prop} {Q : Value → Shared → Prop}
    (C : Cx w mg mb s.heap) (R : Rm 5 A) {os cs : List Nat} {tb tc : Tok} (lb : os.length ≤ 300) (h256 : ∀ o ∈ os, o < 256) (lc : cs.length < 1000)
    (h : ∀ t s', Keeps s s' → Q (.str (S (encW cs os)) t) s') :
    wpAny (model PR w) A (call (.ref 45) [.bytes (byteArr (zs os)) tb, .str (S cs) tc]) Q E s := by
  obtain ⟨bs, e1, e2, e3⟩ := bytes_zs os h256
  rw [e1]
  exact c_encode C R (by omega) lc (by rw [e2]; exact h)
theorem sub_nm {w : World} {A : Around} {s : Shared} {E : Value → Shared → Prop} {Q : Value → Shared → Prop} {h₀ : Heap} {L fa : Addr} {m : Str → Option Value} {cn : Str} {sc : Scope} {ccd : Value} {cl : List (Str × Addr)}
    {ln ix : Str} {p1 p2 pos : Pos} {l : Addr} {vs : List Value} {i : Nat} {t : Tok} {v : Value} (F : Fr h₀ L s.heap m) (e1 : m ln = some (.ref l)) (e2 : m ix = some (.int (i : Int) t)) (hl : s.heap.IsList l vs.toArray) (hi : i < 1000) (hv : vs[i]? = some v) (h : Q v s)
    (hk : sc.kind = .function := by rfl) (hx1 : (envX cn sc L fa ccd cl).kindOf ln = some .local := by rfl) (hx2 : (envX cn sc L fa ccd cl).kindOf ix = some .local := by rfl) (hd1 : (ln == ("__debug__" : Str)) = false := by decide) (hd2 : (ix == ("__debug__" : Str)) = false := by decide) :
    wpAny (model PR w) A (eval (.Subscript (.Name ln p1) (.Name ix p2) pos) (envX cn sc L fa ccd cl)) Q E s := by
  refine Subscript_ ?_
  refine nmL F e1 ?_ hk hx1 hd1
  refine nmL F e2 ?_ hk hx2 hd2
  exact tail_any (ops := _) hl.typeIs slot_list_getitem.lookup (wpAny_getItem_list (x := v) hl (by omega) (by omega) (by simpa using hv) h) (by with_unfolding_all rfl)
theorem norm {w : World} {A : Around} {s : Shared} {h : Heap} {tk : Nat} {α : Type} {x : Sem α} {Q : α → Shared → Prop} {E : Value → Shared → Prop} (H : ∀ tk, wpAny (model PR w) A x Q E { s with heap := h, toks := tk }) : wpAny (model PR w) A x Q E { s with heap := h, toks := tk } := H tk
theorem due_e {x : Bool} {a b : List Nat} (hx : x = false) : (((S b).length : Int) + (a.length : Int) + 1) = (((if x = true then a.length else b.length + a.length + 1 : Nat)) : Int) := by
  rw [hx, S_length]; rfl
theorem mul_dash1 {w : World} {A : Around} {s : Shared} {E : Value → Shared → Prop} {Q : Value → Shared → Prop} {n : Nat} {t u : Tok} (hle : n < 100000) (h : ∀ t' tk, Q (.str (S (List.replicate (n + 1) 45)) t') { s with toks := tk }) :
    wpAny (model PR w) A (binaryOp .Mult (.str (S [45]) t) (.int ((n : Int) + 1) u)) Q E s := mul_dash (n := n + 1) (by omega) (by omega) h
theorem nd3 : ([0, 2, 4] : List Int).Nodup := by decide
theorem nd2 : ([0, 4] : List Int).Nodup := by decide
theorem same_w {k : Int} {due l : Nat} (e : l = due) : ((max k (l : Int)) != (if (due : Int) > k then (due : Int) else k)) = false := by
  subst e
  have : max k (l : Int) = (if (l : Int) > k then (l : Int) else k) := by split <;> omega
  rw [this]; simp
theorem ite_f {c : Bool} {P P' : Prop} (hc : c = false) (h : P') : if c = true then P else P' := by
  subst hc; exact h
theorem pairs_vals {K : Type} [DecidableEq K] {w : World} {knd : KeyKind PR w K} {es : List DictEntry} {kvs : List (K × Value)} (h : Pairs knd es kvs) : es.map (·.val) = kvs.map (·.2) := by
  induction h with
  | nil => rfl
  | cons _ h2 _ ih => simp [h2, ih]
theorem tab_of {w : World} {h : Heap} {d : Addr} {o : Obj} {kvs : List (Int × Value)} {a b : List Nat} {nn : Bool} {ta tb : Tok} (ho : h.get? d = some o) (hd : o.IsDictOf (intKind PR w) kvs)
    (hv : kvs.map (·.2) = .str (S a) ta :: (if nn then [.none, .str (S b) tb] else [.str (S b) tb])) (la : a.length ≤ 50000) (lb : b.length ≤ 50000) (nb : b ≠ []) (big : (d == sysModules) = false) : Tab w h d a b nn := by
  have hD : h.DictOf (intKind PR w) d kvs := Heap.dictOf_iff.mpr ⟨o, ho, hd⟩
  obtain ⟨es, ep, hx, hdat, _, hp, _⟩ := hd
  exact ⟨⟨o, es, ep, ho, hx.1, hx.2.1, hdat, ta, tb, by rw [pairs_vals hp]; exact hv⟩, ⟨kvs, hD⟩, la, lb, nb, big⟩
end Mine
end
section
open PySem PySem.W PyProof.Rows PySem.Calls
set_option maxRecDepth 100000
set_option maxHeartbeats 1000000
namespace Mine
theorem str_S (x : Str) : x = S x.cps.toList := by simp [S]
theorem pick3 (k : Int) (h0 : 0 ≤ k) (h3 : k < 3) (t0 t1 t2 : Tok) : ∃ j cs t, seqIndex? k 3 = some j ∧
    [Value.str (Str.ofString "utf-8") t0, .str (Str.ofString "us-ascii") t1, .str (Str.ofString "x") t2][j]? = some (.str (S cs) t) ∧ cs.length < 1000 := by
  have hk : k = 0 ∨ k = 1 ∨ k = 2 := by omega
  rcases hk with rfl | rfl | rfl
  · exact ⟨0, (Str.ofString "utf-8").cps.toList, t0, by decide, by rw [← str_S]; rfl, by decide⟩
  · exact ⟨1, (Str.ofString "us-ascii").cps.toList, t1, by decide, by rw [← str_S]; rfl, by decide⟩
  · exact ⟨2, (Str.ofString "x").cps.toList, t2, by decide, by rw [← str_S]; rfl, by decide⟩
theorem law_walk {w : World} {mg mb : Str → Option Value} {A : Around} {s : Shared} {Q : Flow → Shared → Prop}
    (C : Cx w mg mb s.heap) (R : Rm 12 A) {fa a : Addr} {ccd : Value} {vx : List Value} {xs : List Int} {h₁ : Heap} {tk : Nat} {m : Str → Option Value} {oc : Obj} {cv : Option Value}
    (ha : s.heap.IsList a vx.toArray) (ia : IntsAre vx xs) (lx : xs.length < 1000)
    (F : Fr s.heap s.heap.objs.size h₁ m) (hm : m "script" = some (.ref a)) (N : News s.heap s.heap.objs.size h₁ [(s.heap.objs.size + 1, oc)]) (hoc : oc.data = .cell cv)
    (hQ : ∀ h' tk' m', Fr s.heap s.heap.objs.size h' m' → Q (.ret (.bool true)) { s with heap := h', toks := tk' }) :
    wpAny (model PR w) (A.deeper (envOfC "law" (lawFn w).2 s.heap.objs.size fa ccd)) (execs (lawFn w).1 (envOfC "law" (lawFn w).2 s.heap.objs.size fa ccd)) Q NE { s with heap := h₁, toks := tk } := by
  refine enter_law rfl ?_
  have R' := R.deeper (envOfC "law" (lawFn w).2 s.heap.objs.size fa ccd)
  refine wpAny_execs_cons ?_
  refine wpAny_Assign_Name ?_
  refine wpAny_mono (Q := fun v s' => ∃ cs t h' tk', v = .str (S cs) t ∧ cs.length < 1000 ∧ s' = { s with heap := h', toks := tk' } ∧ Fr s.heap s.heap.objs.size h' m ∧ News s.heap s.heap.objs.size h' [(s.heap.objs.size + 1, oc)]) ?chs ?_ (fun _ _ e => e)
  case chs =>
    refine Subscript_ ?_
    refine Tuple_ ?_
    refine spliced_more ?_
    refine wpAny_Constant_str ?_
    refine spliced_more ?_
    refine wpAny_Constant_str ?_
    refine spliced_more ?_
    refine wpAny_Constant_str ?_
    refine spliced_none ?_
    refine newTuple_K F N ?_ (by show 3 ≤ sizeLine; decide)
    intro T h₂ F₂ N₂'
    have hT : ∃ t0 t1 t2, News s.heap s.heap.objs.size h₂ [(T, { cls := .type "tuple", data := .seq [Value.str (Str.ofString "utf-8") t0, .str (Str.ofString "us-ascii") t1, .str (Str.ofString "x") t2].toArray }), (s.heap.objs.size + 1, oc)] := ⟨_, _, _, N₂'⟩
    obtain ⟨t0, t1, t2, N₂⟩ := hT
    clear N₂'
    refine wpAny_BinOp ?_
    refine cB1 (nmB F₂ C rfl rfl ⟨rfl, ?_⟩)
    refine nmL F₂ hm ?_
    refine LSm.sum_ints F₂ N₂ R'.hh (ha.at (F₂.keep _)) ia ?_
    intro h₃ tk₃ t₃ F₃ N₃
    refine wpAny_Constant_int ?_
    refine PyProof.Rows.mod_int (by decide) ?_
    have e3 : xs.sum.fmod 3 = xs.sum % 3 := Int.fmod_eq_emod_of_nonneg _ (by omega)
    have hp := pick3 (xs.sum.fmod 3) (by rw [e3]; omega) (by rw [e3]; omega) t0 t1 t2
    obtain ⟨j, cs, t, p1, p2, p3⟩ := hp
    refine item_tupleT (j := j) ⟨_, (N₃ _ (.head _)).1, rfl, _, rfl⟩ (by rw [e3]; omega) (by rw [e3]; omega) p1 p2 ?_
    exact ⟨cs, t, h₃, _, rfl, p3, rfl, F₃, fun p hp => N₃ p (.tail _ hp)⟩
  rintro v s' ⟨cs, tc, h₂, tk₂, hv, hcs, hs', F₂, N₂⟩
  subst hv
  subst hs'
  refine storeX_C F₂ N₂ rfl (UpdF.head (by simp)) hoc ?_
  intro h₃ o₃ F₃ N₃ ho₃
  refine seq_next (fun s₁ => ∃ (B : Addr) (oB : Obj) (refs : List Value) (oss : List (List Nat)) (rl : List (Addr × Obj)) (h' : Heap) (tk' : Nat) (m' : Str → Option Value), s₁ = { s with heap := h', toks := tk' } ∧ Fr s.heap s.heap.objs.size h' m' ∧ m' "rows" = some (.ref B) ∧
      News s.heap s.heap.objs.size h' ((B, oB) :: (rl ++ [(s.heap.objs.size + 1, o₃)])) ∧ oB.cls = .type "list" ∧ (∃ n, oB.data = .seq refs.toArray n) ∧ oss.length = refs.length ∧ refs.length ≤ 20 ∧ (∀ os ∈ oss, os.length < 100 ∧ ∀ o ∈ os, o < 256) ∧
      ∀ (i : Nat) (v : Value) (os : List Nat), refs[i]? = some v → oss[i]? = some os → LI rl v (zs os)) ?rows ?_
  case rows =>
    refine wpAny_Assign_Name ?_
    refine cD1 (f := 57) rfl (nmK F₃ C rfl ⟨rfl, ?_⟩)
    refine nmL F₃ hm ?_
    refine ⟨C.X.keeps F₃.keep, ?_⟩
    refine c_rows (C.keeps F₃.keep) (R'.le (by omega)) (ha.at (F₃.keep _)) ia lx ?_
    intro B refs s' hk hB hrows _ h20 hBn
    obtain ⟨h₄, tk₄, hs4, hk4⟩ := hk
    subst hs4
    have F₄ := F₃.grownK hk4
    have hl := rows_ledger refs hrows
    obtain ⟨oss, rl, l1, l2, l3, l4⟩ := hl
    obtain ⟨oB, hB1, hB2, hB3⟩ := hB
    have N₄ := news_cons F₃ (news_add F₃ (N₃.grown hk4) l2) hB1 hBn
    refine storeX_L F₄ N₄ ?_
    intro h₅ F₅ N₅
    exact ⟨rfl, B, oB, refs, oss, rl, h₅, _, _, rfl, F₅, if_pos rfl, N₅, hB2, hB3, l1, h20, l3, l4⟩
  rintro s₁ ⟨B, oB, refs, oss, rl, h₅, tk₅, m₅, hs5, F₅, e5, N₅, hB2, hB3, l1, h20, l3, l4⟩
  subst hs5
  have hsz : refs.toArray.size = oss.length := by rw [l1]; simp
  have hsz' : refs.toArray.size ≤ sizeLine := by simp; unfold sizeLine; omega
  refine seq_next (fun s₁ => ∃ (D : Addr) (rks : List Value) (nw : List (Addr × Obj)) (h' : Heap) (tk' : Nat) (m' : Str → Option Value), s₁ = { s with heap := h', toks := tk' } ∧ Fr s.heap s.heap.objs.size h' m' ∧ m' "rows" = some (.ref B) ∧ m' "ranks" = some (.ref D) ∧
      News s.heap s.heap.objs.size h' ((D, LCg.lst rks) :: nw) ∧ (∀ p ∈ (B, oB) :: (rl ++ [(s.heap.objs.size + 1, o₃)]), p ∈ nw) ∧ rks.length = oss.length ∧
      ∀ (i : Nat) (v : Value) (os : List Nat), rks[i]? = some v → oss[i]? = some os → LI nw v (rankL os)) ?ranks ?_
  case ranks =>
    refine LCg.Assign_ListComp_U F₅ rfl rfl rfl (by decide) rfl (by decide) rfl rfl rfl ?_
    refine nmL F₅ e5 ?_
    refine src_led R'.hh F₅ N₅ (.head _) hB2 hB3 hsz' ?_
    intro g
    refine rest_ind (n := refs.toArray.size) (fun i ys nw => (∀ p ∈ (B, oB) :: (rl ++ [(s.heap.objs.size + 1, o₃)]), p ∈ nw) ∧ ys.length = i ∧ ∀ (j : Nat) (v : Value) (os : List Nat), ys[j]? = some v → oss[j]? = some os → LI nw v (rankL os)) ?step ?fin _ 0 [] _ (Nat.zero_add _) ⟨fun p hp => hp, rfl, by simp⟩
    case fin =>
      rintro ys nw ⟨j1, j2, j3⟩
      intro D h₆ tk₆ F₆ N₆ _
      exact ⟨rfl, D, ys, nw, h₆, tk₆, _, rfl, F₆, (if_neg (by decide)).trans e5, if_pos rfl, N₆, j1, by rw [j2, hsz], j3⟩
    case step =>
      rintro i ys nw hi ⟨j1, j2, j3⟩ v I oI Ca oC D m₂ h tk' E' hv hns hm2 F' N' hoff hne
      have hlt : i < oss.length := by omega
      have hos : oss[i]? = some oss[i] := List.getElem?_eq_getElem hlt
      have hvi : refs[i]? = some v := by simpa using hv
      have hLI := ((l4 i v _ hvi hos).mono (rl' := nw) (fun p hp => j1 p (.tail _ (List.mem_append.mpr (.inl hp))))).list (fun p hp => N' p (.tail _ (.tail _ (.tail _ hp))))
      obtain ⟨a', vs, hva, hla, hia⟩ := hLI
      subst hva
      have hok := l3 _ (List.getElem_mem hlt)
      have C' := C.keeps F'.keep
      refine cD1 (f := 64) rfl (cnK C' rfl ⟨rfl, ?_⟩)
      refine cnL (N' _ (.tail _ (.head _))).1 hns hm2 ?_
      refine ⟨C'.X, ?_⟩
      refine c_ranks C' (R'.le (by omega)) hla hia (by have := hok.1; omega) hok.2 ?_
      intro b vs' s'' hk hb hi' hbn
      obtain ⟨h'', tk'', hs'', hk''⟩ := hk
      subst hs''
      obtain ⟨ob, hb1, hb2, hb3⟩ := hb
      have F'' := F'.grownK hk''
      have N'' := news_cons F' (N'.grown hk'') hb1 hbn
      refine LCg.CompEnd.intro F'' N'' ((b, ob) :: nw) sub_new (off_new N' hoff hbn) (.inr ⟨oB, .tail _ (j1 _ (.head _)), hB2, hB3⟩) ⟨fun p hp => .tail _ (j1 p hp), by simp [j2], ?_⟩
      refine snoc_at j2 (fun j v os h1 h2 => (j3 j v os h1 h2).mono fun p hp => .tail _ hp) ?_
      intro os ho
      have : os = oss[i] := by rw [hos] at ho; cases ho; rfl
      subst this
      exact ⟨b, ob, vs', rfl, .head _, hb2, hb3, hi'⟩
  rintro s₁ ⟨D₁, rks, nw, h₆, tk₆, m₆, hs6, F₆, f1, f2, N₆, hsub, hrl, hrk⟩
  subst hs6
  have hcellm : (s.heap.objs.size + 1, o₃) ∈ (D₁, LCg.lst rks) :: nw := .tail _ (hsub _ (.tail _ (List.mem_append.mpr (.inr (.head _)))))
  have hBm : (B, oB) ∈ (D₁, LCg.lst rks) :: nw := .tail _ (hsub _ (.head _))
  refine seq_next (fun s₁ => ∃ (D : Addr) (wds : List Value) (h' : Heap) (tk' : Nat) (m' : Str → Option Value), s₁ = { s with heap := h', toks := tk' } ∧ Fr s.heap s.heap.objs.size h' m' ∧ m' "rows" = some (.ref B) ∧ m' "ranks" = some (.ref D₁) ∧ m' "words" = some (.ref D) ∧
      News s.heap s.heap.objs.size h' ((D, LCg.lst wds) :: (D₁, LCg.lst rks) :: nw) ∧ wds.length = oss.length ∧
      ∀ (i : Nat) (v : Value) (os : List Nat), wds[i]? = some v → oss[i]? = some os → ∃ t, v = .str (S (encW cs os)) t) ?words ?_
  case words =>
    refine LCg.Assign_ListComp_U F₆ rfl rfl (by with_unfolding_all rfl) (by decide) rfl (by decide) rfl rfl rfl ?_
    refine nmL F₆ f1 ?_
    refine src_led R'.hh F₆ N₆ hBm hB2 hB3 hsz' ?_
    intro g
    refine rest_ind (n := refs.toArray.size) (fun i ys nw' => nw' = (D₁, LCg.lst rks) :: nw ∧ ys.length = i ∧ ∀ (j : Nat) (v : Value) (os : List Nat), ys[j]? = some v → oss[j]? = some os → ∃ t, v = .str (S (encW cs os)) t) ?step ?fin _ 0 [] _ (Nat.zero_add _) ⟨rfl, rfl, by simp⟩
    case fin =>
      rintro ys nw' ⟨j1, j2, j3⟩
      subst j1
      intro D h₇ tk₇ F₇ N₇ _
      exact ⟨rfl, D, ys, h₇, tk₇, _, rfl, F₇, (if_neg (by decide)).trans f1, (if_neg (by decide)).trans f2, if_pos rfl, N₇, by rw [j2, hsz], j3⟩
    case step =>
      rintro i ys nw' hi ⟨j1, j2, j3⟩ v I oI Ca oC D m₂ h tk' E' hv hns hm2 F' N' hoff hne
      subst j1
      have hlt : i < oss.length := by omega
      have hos : oss[i]? = some oss[i] := List.getElem?_eq_getElem hlt
      have hvi : refs[i]? = some v := by simpa using hv
      have hLI := ((l4 i v _ hvi hos).mono (rl' := (D₁, LCg.lst rks) :: nw) (fun p hp => .tail _ (hsub p (.tail _ (List.mem_append.mpr (.inl hp)))))).list (fun p hp => N' p (.tail _ (.tail _ (.tail _ hp))))
      obtain ⟨a', vs, hva, hla, hia⟩ := hLI
      subst hva
      have hok := l3 _ (List.getElem_mem hlt)
      have C' := C.keeps F'.keep
      refine cD2 (f := 45) rfl (cnK C' rfl ⟨rfl, ?_⟩)
      refine cT1 (cnB C' rfl rfl ⟨rfl, ?_⟩)
      refine cnL (N' _ (.tail _ (.head _))).1 hns hm2 ?_
      refine call_bytes_ints hla hia ?_ ?_ R'.hh ?_
      · intro n hn
        obtain ⟨o, ho, rfl⟩ := List.mem_map.mp hn
        have := hok.2 o ho
        omega
      · have := hia.length
        have h2 := hok.1
        simp [zs] at this
        unfold sizeLine; omega
      intro h'' t'' k'' hk''
      have F'' := F'.grownK hk''
      have N'' := N'.grown hk''
      refine lcf_cell N'' rfl (.tail _ (.tail _ (.tail _ hcellm))) ho₃ ?_ rfl rfl
      have C'' := C.keeps F''.keep
      refine ⟨C''.X, ?_⟩
      refine c_encode' C'' (R'.le (by omega)) (by have := hok.1; omega) hok.2 hcs ?_
      intro t3 s3 hk3
      obtain ⟨h3, tk3, hs3, hk3'⟩ := hk3
      subst hs3
      refine LCg.CompEnd.intro (F''.grownK hk3') (N''.grown hk3') _ (fun p hp => hp) hoff (.inr ⟨oB, hBm, hB2, hB3⟩) ⟨rfl, by simp [j2], ?_⟩
      refine snoc_at j2 j3 ?_
      intro os ho
      have : os = oss[i] := by rw [hos] at ho; cases ho; rfl
      subst this
      exact ⟨t3, rfl⟩
  rintro s₁ ⟨D₂, wds, h₇, tk₇, m₇, hs7, F₇, g1, g2, g3, N₇, hwl, hwd⟩
  subst hs7
  have hsr : rks.toArray.size = oss.length := by simp [hrl]
  have hsr' : rks.toArray.size ≤ sizeLine := by rw [hsr, ← hsz]; exact hsz'
  refine seq_next (fun s₁ => ∃ (D : Addr) (sps : List Value) (h' : Heap) (tk' : Nat) (m' : Str → Option Value), s₁ = { s with heap := h', toks := tk' } ∧ Fr s.heap s.heap.objs.size h' m' ∧ m' "rows" = some (.ref B) ∧ m' "ranks" = some (.ref D₁) ∧ m' "words" = some (.ref D₂) ∧ m' "spelled" = some (.ref D) ∧
      News s.heap s.heap.objs.size h' ((D, LCg.lst sps) :: (D₂, LCg.lst wds) :: (D₁, LCg.lst rks) :: nw) ∧ sps.length = oss.length ∧
      ∀ (i : Nat) (v : Value) (os : List Nat), sps[i]? = some v → oss[i]? = some os → ∃ t, v = .str (S (spell cs (rankL os))) t) ?spelled ?_
  case spelled =>
    refine LCg.Assign_ListComp_U F₇ rfl rfl (by with_unfolding_all rfl) (by decide) rfl (by decide) rfl rfl rfl ?_
    refine nmL F₇ g2 ?_
    refine src_led (o := LCg.lst rks) (its := rks.toArray) R'.hh F₇ N₇ (.tail _ (.head _)) rfl ⟨_, rfl⟩ hsr' ?_
    intro g
    refine rest_ind (n := rks.toArray.size) (fun i ys nw' => nw' = (D₂, LCg.lst wds) :: (D₁, LCg.lst rks) :: nw ∧ ys.length = i ∧ ∀ (j : Nat) (v : Value) (os : List Nat), ys[j]? = some v → oss[j]? = some os → ∃ t, v = .str (S (spell cs (rankL os))) t) ?step ?fin _ 0 [] _ (Nat.zero_add _) ⟨rfl, rfl, by simp⟩
    case fin =>
      rintro ys nw' ⟨j1, j2, j3⟩
      subst j1
      intro D h₈ tk₈ F₈ N₈ _
      exact ⟨rfl, D, ys, h₈, tk₈, _, rfl, F₈, (if_neg (by decide)).trans g1, (if_neg (by decide)).trans g2, (if_neg (by decide)).trans g3, if_pos rfl, N₈, by rw [j2, hsr], j3⟩
    case step =>
      rintro i ys nw' hi ⟨j1, j2, j3⟩ v I oI Ca oC D m₂ h tk' E' hv hns hm2 F' N' hoff hne
      subst j1
      have hlt : i < oss.length := by omega
      have hos : oss[i]? = some oss[i] := List.getElem?_eq_getElem hlt
      have hvi : rks[i]? = some v := by simpa using hv
      have hLI := ((hrk i v _ hvi hos).mono (rl' := (D₂, LCg.lst wds) :: (D₁, LCg.lst rks) :: nw) (fun p hp => .tail _ (.tail _ hp))).list (fun p hp => N' p (.tail _ (.tail _ (.tail _ hp))))
      obtain ⟨a', vs, hva, hla, hia⟩ := hLI
      subst hva
      have hok := l3 _ (List.getElem_mem hlt)
      have C' := C.keeps F'.keep
      refine cD2 (f := 71) rfl (cnK C' rfl ⟨rfl, ?_⟩)
      refine cnL (N' _ (.tail _ (.head _))).1 hns hm2 ?_
      refine lcf_cell N' rfl (.tail _ (.tail _ (.tail _ (.tail _ hcellm)))) ho₃ ?_ rfl rfl
      refine ⟨C'.X, ?_⟩
      refine c_spelled C' (R'.le (by omega)) hla hia (by have := hok.1; have := rankL_len oss[i]; omega) (rankL_ok hok.2) hcs ?_
      intro t3 s3 hk3
      obtain ⟨h3, tk3, hs3, hk3'⟩ := hk3
      subst hs3
      refine LCg.CompEnd.intro (F'.grownK hk3') (N'.grown hk3') _ (fun p hp => hp) hoff (.inr ⟨LCg.lst rks, .tail _ (.head _), rfl, _, rfl⟩) ⟨rfl, by simp [j2], ?_⟩
      refine snoc_at j2 j3 ?_
      intro os ho
      have : os = oss[i] := by rw [hos] at ho; cases ho; rfl
      subst this
      exact ⟨t3, rfl⟩
  rintro s₁ ⟨D₃, sps, h₈, tk₈, m₈, hs8, F₈, k1, k2, k3, k4, N₈, hpl, hpd⟩
  subst hs8
  have hNW : ∃ NW, News s.heap s.heap.objs.size h₈ NW ∧ (B, oB) ∈ NW ∧ (D₁, LCg.lst rks) ∈ NW ∧ (D₂, LCg.lst wds) ∈ NW ∧ (D₃, LCg.lst sps) ∈ NW ∧ ∀ (i : Nat) (v : Value) (os : List Nat), rks[i]? = some v → oss[i]? = some os → LI NW v (rankL os) :=
    ⟨_, N₈, .tail _ (.tail _ hBm), .tail _ (.tail _ (.head _)), .tail _ (.head _), .head _, fun i v os h1 h2 => (hrk i v os h1 h2).mono fun p hp => .tail _ (.tail _ (.tail _ hp))⟩
  obtain ⟨NW, NN, m0, m1, m2, m3, hRK⟩ := hNW
  have hn20 : oss.length ≤ 20 := by omega
  have isB : ∀ {h' : Heap} {nw' : List (Addr × Obj)}, News s.heap s.heap.objs.size h' nw' → (∀ p ∈ NW, p ∈ nw') → h'.IsList B refs.toArray := fun N' hs => ⟨oB, (N' _ (hs _ m0)).1, hB2, hB3⟩
  have isR : ∀ {h' : Heap} {nw' : List (Addr × Obj)}, News s.heap s.heap.objs.size h' nw' → (∀ p ∈ NW, p ∈ nw') → h'.IsList D₁ rks.toArray := fun N' hs => ⟨_, (N' _ (hs _ m1)).1, rfl, _, rfl⟩
  have isW : ∀ {h' : Heap} {nw' : List (Addr × Obj)}, News s.heap s.heap.objs.size h' nw' → (∀ p ∈ NW, p ∈ nw') → h'.IsList D₂ wds.toArray := fun N' hs => ⟨_, (N' _ (hs _ m2)).1, rfl, _, rfl⟩
  have isS : ∀ {h' : Heap} {nw' : List (Addr × Obj)}, News s.heap s.heap.objs.size h' nw' → (∀ p ∈ NW, p ∈ nw') → h'.IsList D₃ sps.toArray := fun N' hs => ⟨_, (N' _ (hs _ m3)).1, rfl, _, rfl⟩
  clear N₈ N₇ N₆ N₅ N₃ N₂ hrk hcellm hBm
  have sz : (refs.toArray.size : Int) = oss.length := by rw [hsz]
  refine wpAny_execs_cons (For_invV s.heap rfl rfl ?_ (hE := PassesOwn.never))
  refine cT1 (nmB F₈ C rfl rfl ⟨rfl, ?_⟩)
  refine cB1 (nmB F₈ C rfl rfl ⟨rfl, ?_⟩)
  refine nmL F₈ k1 ?_
  refine call_len_list (isB NN fun p hp => hp) (by omega) ?_
  refine norm (s := s) (h := h₈) ?_
  intro tkA
  refine loop_range (fun i m' nw' => nw' = NW ∧ m' "rows" = some (.ref B) ∧ m' "ranks" = some (.ref D₁) ∧ m' "words" = some (.ref D₂) ∧ m' "spelled" = some (.ref D₃)) R'.hh (by omega) (by omega) F₈ NN ⟨rfl, k1, k2, k3, k4⟩ ?turn ?done
  case done =>
    rintro h₉ tk₉ m₉ nw₉ F₉ N₉ _
    refine wpAny_execs_cons ?_
    refine wpAny_Return_some ?_
    refine wpAny_Constant_bool ?_
    exact hQ h₉ _ m₉ F₉
  case turn =>
    rintro I i u m₉ nw₉ h₉ tk₉ own hi ⟨hnw, a1, a2, a3, a4⟩ hI hown hfp F₉ N₉
    subst hnw
    have hi' : i < oss.length := by omega
    have hosi : oss[i]? = some oss[i] := List.getElem?_eq_getElem hi'
    have sub9 : ∀ p ∈ nw₉, p ∈ own ++ nw₉ := fun p hp => List.mem_append.mpr (.inr hp)
    have hsi : sps[i]? = some sps[i] := List.getElem?_eq_getElem (by omega)
    have hsp := hpd i sps[i] oss[i] hsi hosi
    obtain ⟨tp, hsp⟩ := hsp
    rw [hsp] at hsi
    have hoi := l3 _ (List.getElem_mem hi')
    have lwi : (spell cs (rankL oss[i])).length ≤ 2000 := by have := spell_len cs (rankL oss[i]); have := rankL_len oss[i]; have := hoi.1; omega
    refine wpAny_execs_cons ?_
    refine wpAny_Assign_Name ?_
    refine cB1 (nmB F₉ C rfl rfl ⟨rfl, ?_⟩)
    refine sub_nm F₉ ((if_neg (by decide)).trans a4) (if_pos rfl) (isS N₉ sub9) (by omega) hsi ?_
    refine PySem.P.len_str (by rw [S_length]; omega) ?_
    refine storeX_L F₉ N₉ ?_
    intro h₁₀ F₁₀' N₁₀
    have hob : ∃ m' t, (m' "rows" = some (.ref B) ∧ m' "ranks" = some (.ref D₁) ∧ m' "words" = some (.ref D₂) ∧ m' "spelled" = some (.ref D₃) ∧ m' "i" = some (.int (i : Int) u) ∧ m' "size" = some (.int ((spell cs (rankL oss[i])).length : Int) t)) ∧ Fr s.heap s.heap.objs.size h₁₀ m' :=
      ⟨_, _, ⟨(if_neg (by decide)).trans ((if_neg (by decide)).trans a1), (if_neg (by decide)).trans ((if_neg (by decide)).trans a2), (if_neg (by decide)).trans ((if_neg (by decide)).trans a3), (if_neg (by decide)).trans ((if_neg (by decide)).trans a4), (if_neg (by decide)).trans (if_pos rfl), (if_pos rfl).trans (congrArg (fun n : Nat => some (Value.int (n : Int) _)) (S_length _))⟩, F₁₀'⟩
    obtain ⟨m₁₀, ts, ⟨b1, b2, b3, b4, b5, b6⟩, F₁₀⟩ := hob
    clear F₁₀'
    refine wpAny_execs_cons (For_invV s.heap rfl rfl ?_ (hE := PassesOwn.never))
    refine cT1 (nmB F₁₀ C rfl rfl ⟨rfl, ?_⟩)
    refine cB1 (nmB F₁₀ C rfl rfl ⟨rfl, ?_⟩)
    refine nmL F₁₀ b1 ?_
    refine call_len_list (isB N₁₀ sub9) (by omega) ?_
    refine norm (s := s) (h := h₁₀) ?_
    intro tkB
    refine loop_range (fun j m' nw' => nw' = own ++ nw₉ ∧ m' "rows" = some (.ref B) ∧ m' "ranks" = some (.ref D₁) ∧ m' "words" = some (.ref D₂) ∧ m' "spelled" = some (.ref D₃) ∧ m' "i" = some (.int (i : Int) u) ∧ m' "size" = some (.int ((spell cs (rankL oss[i])).length : Int) ts)) R'.hh (by omega) (by omega) F₁₀ N₁₀ ⟨rfl, b1, b2, b3, b4, b5, b6⟩ ?turn ?done
    case done =>
      rintro h₁₁ tk₁₁ m₁₁ nw₁₁ F₁₁ N₁₁ ⟨hnw, c1, c2, c3, c4, _, _⟩
      subst hnw
      refine wpAny_execs_nil ?_
      exact ⟨h₁₁, _, m₁₁, nw₉, rfl, F₁₁, N₁₁, hI, rfl, c1, c2, c3, c4⟩
    case turn =>
      rintro I' j u' m₁₁ nw₁₁ h₁₁ tk₁₁ own' hj ⟨hnw, c1, c2, c3, c4, c5, c6⟩ hI' hown' hfp' F₁₁' N₁₁
      subst hnw
      have hj' : j < oss.length := by omega
      have hosj : oss[j]? = some oss[j] := List.getElem?_eq_getElem hj'
      have sub11 : ∀ p ∈ nw₉, p ∈ own' ++ (own ++ nw₉) := fun p hp => List.mem_append.mpr (.inr (sub9 p hp))
      have hob : ∃ m', (m' "rows" = some (.ref B) ∧ m' "ranks" = some (.ref D₁) ∧ m' "words" = some (.ref D₂) ∧ m' "spelled" = some (.ref D₃) ∧ m' "i" = some (.int (i : Int) u) ∧ m' "size" = some (.int ((spell cs (rankL oss[i])).length : Int) ts) ∧ m' "j" = some (.int (j : Int) u')) ∧ Fr s.heap s.heap.objs.size h₁₁ m' :=
        ⟨_, ⟨(if_neg (by decide)).trans c1, (if_neg (by decide)).trans c2, (if_neg (by decide)).trans c3, (if_neg (by decide)).trans c4, (if_neg (by decide)).trans c5, (if_neg (by decide)).trans c6, if_pos rfl⟩, F₁₁'⟩
      obtain ⟨m₁₂, ⟨d1, d2, d3, d4, d5, d6, d7⟩, F₁₁⟩ := hob
      clear F₁₁' c1 c2 c3 c4 c5 c6
      have hri : rks[i]? = some rks[i] := List.getElem?_eq_getElem (by omega)
      have hrj : rks[j]? = some rks[j] := List.getElem?_eq_getElem (by omega)
      have hsj : sps[j]? = some sps[j] := List.getElem?_eq_getElem (by omega)
      have hspj := hpd j sps[j] oss[j] hsj hosj
      obtain ⟨tpj, hspj⟩ := hspj
      rw [hspj] at hsj
      have hoj := l3 _ (List.getElem_mem hj')
      have lwj : (spell cs (rankL oss[j])).length ≤ 2000 := by have := spell_len cs (rankL oss[j]); have := rankL_len oss[j]; have := hoj.1; omega
      have hLi := ((hRK i _ _ hri hosi).mono sub11).list N₁₁
      obtain ⟨ai, vi, hvi, hai, iai⟩ := hLi
      rw [hvi] at hri
      have hLj := ((hRK j _ _ hrj hosj).mono sub11).list N₁₁
      obtain ⟨aj, vj, hvj, haj, iaj⟩ := hLj
      rw [hvj] at hrj
      refine seq_next (fun s₁ => ∃ (h' : Heap) (tk' : Nat) (m' : Str → Option Value) (t : Tok), s₁ = { s with heap := h', toks := tk' } ∧ Fr s.heap s.heap.objs.size h' m' ∧ News s.heap s.heap.objs.size h' (own' ++ (own ++ nw₉)) ∧
          (m' "rows" = some (.ref B) ∧ m' "ranks" = some (.ref D₁) ∧ m' "words" = some (.ref D₂) ∧ m' "spelled" = some (.ref D₃) ∧ m' "i" = some (.int (i : Int) u) ∧ m' "size" = some (.int ((spell cs (rankL oss[i])).length : Int) ts) ∧ m' "j" = some (.int (j : Int) u')) ∧
          m' "due" = some (.int (((if above (rankL oss[i]) (rankL oss[j]) then (spell cs (rankL oss[i])).length else (spell cs (rankL oss[j])).length + (spell cs (rankL oss[i])).length + 1 : Nat)) : Int) t)) ?due ?_
      case due =>
        refine wpAny_Assign_Name ?_
        refine wpAny_IfExp ?_
        refine isTrue_plain ?_
        refine cD2 (f := 78) rfl (nmK F₁₁ C rfl ⟨rfl, ?_⟩)
        refine sub_nm F₁₁ d2 d5 (isR N₁₁ sub11) (by omega) hri ?_
        refine sub_nm F₁₁ d2 d7 (isR N₁₁ sub11) (by omega) hrj ?_
        refine ⟨C.X.keeps F₁₁.keep, ?_⟩
        refine c_above (C.keeps F₁₁.keep) (R'.le (by omega)) hai iai haj iaj (by have := rankL_len oss[i]; have := hoi.1; omega) (by have := rankL_len oss[j]; have := hoj.1; omega) ?_
        intro s' hk
        obtain ⟨h', tk', hs', hk'⟩ := hk
        subst hs'
        have F' := F₁₁.grownK hk'
        have N' := N₁₁.grown hk'
        refine wpAny_truthy_bool ?_
        refine ite_b (fun hb => ?_) (fun hb => ?_)
        · refine nmL F' d6 ?_
          refine storeX_L F' N' ?_
          intro h'' F'' N''
          refine ⟨rfl, h'', _, _, ts, rfl, F'', N'', ⟨(if_neg (by decide)).trans d1, (if_neg (by decide)).trans d2, (if_neg (by decide)).trans d3, (if_neg (by decide)).trans d4, (if_neg (by decide)).trans d5, (if_neg (by decide)).trans d6, (if_neg (by decide)).trans d7⟩, ?_⟩
          rw [if_pos hb]; exact if_pos rfl
        · refine wpAny_BinOp ?_
          refine wpAny_BinOp ?_
          refine cB1 (nmB F' C rfl rfl ⟨rfl, ?_⟩)
          refine sub_nm F' d4 d7 (isS N' sub11) (by omega) hsj ?_
          refine PySem.P.len_str (by rw [S_length]; omega) ?_
          refine nmL F' d6 ?_
          refine PyProof.Rows.add_int ?_
          refine wpAny_Constant_int ?_
          refine PyProof.Rows.add_int ?_
          refine norm (s := s) (h := h') ?_
          intro tkA
          refine storeX_L F' N' ?_
          intro h'' F'' N''
          refine ⟨rfl, h'', _, _, _, rfl, F'', N'', ⟨(if_neg (by decide)).trans d1, (if_neg (by decide)).trans d2, (if_neg (by decide)).trans d3, (if_neg (by decide)).trans d4, (if_neg (by decide)).trans d5, (if_neg (by decide)).trans d6, (if_neg (by decide)).trans d7⟩, (if_pos rfl).trans (congrArg (fun z : Int => some (Value.int z _)) (due_e hb))⟩
      rintro s₁ ⟨h₁₃, tk₁₃, m₁₃, td, hs13, F₁₃, N₁₃, ⟨f1', f2', f3', f4', f5', f6', f7'⟩, f8'⟩
      subst hs13
      have hbig : sysModules < s.heap.objs.size := by have := Heap.lt_size (C.X 83 _ rfl); exact Nat.lt_trans (by decide) this
      have hwi : wds[i]? = some wds[i] := List.getElem?_eq_getElem (by omega)
      have hwpi := hwd i wds[i] oss[i] hwi hosi
      obtain ⟨twi, hwpi⟩ := hwpi
      rw [hwpi, enc_spell cs _ hoi.2] at hwi
      have hbl := best_len cs oss[i] oss[j] hoi.2 hoj.2
      have hbn : spell cs (rankL oss[j]) ++ List.replicate ((spell cs (rankL oss[i])).length + 1) 45 ≠ [] := by simp [List.replicate_succ]
      have hbl2 : (spell cs (rankL oss[j]) ++ List.replicate ((spell cs (rankL oss[i])).length + 1) 45).length ≤ 50000 := by simp only [List.length_append, List.length_replicate]; omega
      refine seq_next (fun s₁ => ∃ (h' : Heap) (tk' : Nat), s₁ = { s with heap := h', toks := tk' } ∧ Fr s.heap s.heap.objs.size h' m₁₃ ∧ News s.heap s.heap.objs.size h' (own' ++ (own ++ nw₉))) ?if1 ?_
      case if1 =>
        refine wpAny_If ?_
        refine wpAny_isTrue_Compare1 ?_
        refine cD1 (f := 21) rfl (nmK F₁₃ C rfl ⟨rfl, ?_⟩)
        refine Dict_made_int rfl F₁₃ rfl rfl (by simp) (by decide) ?_
        intro Fp
        have Np : News s.heap s.heap.objs.size (h₁₃.push { cls := .type "dict", data := .dict #[] }) (own' ++ (own ++ nw₉)) := fun p hp => ⟨Heap.get?_push_of_some _ (N₁₃ p hp).1, (N₁₃ p hp).2⟩
        refine pairTrees_cons_walk ?_
        refine wpAny_Constant_int ?_
        refine sub_nm Fp f3' f5' (isW Np sub11) (by omega) hwi ?_
        refine pairTrees_cons_walk ?_
        refine wpAny_Constant_int ?_
        refine wpAny_Constant_none ?_
        refine pairTrees_cons_walk ?_
        refine wpAny_Constant_int ?_
        refine wpAny_BinOp ?_
        refine sub_nm Fp f4' f7' (isS Np sub11) (by omega) hsj ?_
        refine wpAny_BinOp ?_
        refine constS [45] (by decide +kernel) ?_
        refine wpAny_BinOp ?_
        refine nmL Fp f6' ?_
        refine wpAny_Constant_int ?_
        refine PyProof.Rows.add_int ?_
        refine mul_dash1 (by omega) ?_
        intro t1 k1'
        refine add_S ?_ (by simp only [List.length_replicate]; omega)
        intro t2 k2'
        refine pairTrees_nil_walk ?_
        refine made_int F₁₃ N₁₃ rfl nd3 ?_
        intro h' o' F' N' hd
        refine ⟨C.X.keeps F'.keep, ?_⟩
        refine norm (s := s) (h := h') ?_
        intro tkC
        refine c_width (d := h₁₃.objs.size) (nn := true) (a := spell cs (rankL oss[i])) (b := spell cs (rankL oss[j]) ++ List.replicate ((spell cs (rankL oss[i])).length + 1) 45) (C.keeps F'.keep) (R'.le (by omega)) (tab_of (N' _ (.head _)).1 hd rfl (by omega) hbl2 hbn (F₁₃.notModules hbig)) ?_
        intro tw s4 hk4
        obtain ⟨h4, tk4, hs4, hk4⟩ := hk4
        subst hs4
        have F4 := F'.grownK hk4
        have N4 := N'.grown hk4
        refine norm (s := s) (h := h4) ?_
        intro tkD
        refine cB2 (nmB F4 C rfl rfl ⟨rfl, ?_⟩)
        refine wpAny_Constant_int ?_
        refine nmL F4 f8' ?_
        refine max_two_N R'.hh F4 N4 ?_
        intro h5 tk5 F5 N5
        refine PyProof.Rows.ne_int ?_
        refine wpAny_truthy_bool ?_
        refine ite_f (same_w hbl) ?_
        refine wpAny_execs_nil ?_
        exact ⟨rfl, h5, _, rfl, F5, fun p hp => N5 p (.tail _ hp)⟩
      rintro s₁ ⟨h₁₄, tk₁₄, hs14, F₁₄, N₁₄⟩
      subst hs14
      have hwj : wds[j]? = some wds[j] := List.getElem?_eq_getElem (by omega)
      have hwpj := hwd j wds[j] oss[j] hwj hosj
      obtain ⟨twj, hwpj⟩ := hwpj
      rw [hwpj, enc_spell cs _ hoj.2] at hwj
      refine seq_next (fun s₁ => ∃ (h' : Heap) (tk' : Nat), s₁ = { s with heap := h', toks := tk' } ∧ Fr s.heap s.heap.objs.size h' m₁₃ ∧ News s.heap s.heap.objs.size h' (own' ++ (own ++ nw₉))) ?if2 ?_
      case if2 =>
        refine wpAny_If ?_
        refine wpAny_isTrue_Compare1 ?_
        refine cD1 (f := 21) rfl (nmK F₁₄ C rfl ⟨rfl, ?_⟩)
        refine Dict_made_int rfl F₁₄ rfl rfl (by simp) (by decide) ?_
        intro Fp
        have Np : News s.heap s.heap.objs.size (h₁₄.push { cls := .type "dict", data := .dict #[] }) (own' ++ (own ++ nw₉)) := fun p hp => ⟨Heap.get?_push_of_some _ (N₁₄ p hp).1, (N₁₄ p hp).2⟩
        refine pairTrees_cons_walk ?_
        refine wpAny_Constant_int ?_
        refine sub_nm Fp f4' f5' (isS Np sub11) (by omega) hsi ?_
        refine pairTrees_cons_walk ?_
        refine wpAny_Constant_int ?_
        refine wpAny_BinOp ?_
        refine sub_nm Fp f3' f7' (isW Np sub11) (by omega) hwj ?_
        refine wpAny_BinOp ?_
        refine constS [45] (by decide +kernel) ?_
        refine wpAny_BinOp ?_
        refine nmL Fp f6' ?_
        refine wpAny_Constant_int ?_
        refine PyProof.Rows.add_int ?_
        refine mul_dash1 (by omega) ?_
        intro t1 k1'
        refine add_S ?_ (by simp only [List.length_replicate]; omega)
        intro t2 k2'
        refine pairTrees_nil_walk ?_
        refine made_int F₁₄ N₁₄ rfl nd2 ?_
        intro h' o' F' N' hd
        refine ⟨C.X.keeps F'.keep, ?_⟩
        refine norm (s := s) (h := h') ?_
        intro tkC
        refine c_width (d := h₁₄.objs.size) (nn := false) (a := spell cs (rankL oss[i])) (b := spell cs (rankL oss[j]) ++ List.replicate ((spell cs (rankL oss[i])).length + 1) 45) (C.keeps F'.keep) (R'.le (by omega)) (tab_of (N' _ (.head _)).1 hd rfl (by omega) hbl2 hbn (F₁₄.notModules hbig)) ?_
        intro tw s4 hk4
        obtain ⟨h4, tk4, hs4, hk4⟩ := hk4
        subst hs4
        have F4 := F'.grownK hk4
        have N4 := N'.grown hk4
        refine norm (s := s) (h := h4) ?_
        intro tkD
        refine cB2 (nmB F4 C rfl rfl ⟨rfl, ?_⟩)
        refine wpAny_Constant_int ?_
        refine nmL F4 f8' ?_
        refine max_two_N R'.hh F4 N4 ?_
        intro h5 tk5 F5 N5
        refine PyProof.Rows.ne_int ?_
        refine wpAny_truthy_bool ?_
        refine ite_f (same_w hbl) ?_
        refine wpAny_execs_nil ?_
        exact ⟨rfl, h5, _, rfl, F5, fun p hp => N5 p (.tail _ hp)⟩
      rintro s₁ ⟨h₁₅, tk₁₅, hs15, F₁₅, N₁₅⟩
      subst hs15
      refine wpAny_execs_nil ?_
      exact ⟨h₁₅, tk₁₅, m₁₃, own ++ nw₉, rfl, F₁₅, N₁₅, hI', rfl, f1', f2', f3', f4', f5', f6'⟩
end Mine
namespace Mine
def Ended (s : Shared) (f : Flow) (s' : Shared) : Prop := f = .ret (.bool true) ∧ ∃ h' tk' m', s' = { s with heap := h', toks := tk' } ∧ Fr s.heap s.heap.objs.size h' m'
theorem law_end {w : World} {mg mb : Str → Option Value} {A : Around} {s : Shared}
    (C : Cx w mg mb s.heap) (R : Rm 12 A) {fa a : Addr} {ccd : Value} {vx : List Value} {xs : List Int} {h₁ : Heap} {tk : Nat} {m : Str → Option Value} {oc : Obj} {cv : Option Value}
    (ha : s.heap.IsList a vx.toArray) (ia : IntsAre vx xs) (lx : xs.length < 1000)
    (F : Fr s.heap s.heap.objs.size h₁ m) (hm : m "script" = some (.ref a)) (N : News s.heap s.heap.objs.size h₁ [(s.heap.objs.size + 1, oc)]) (hoc : oc.data = .cell cv) :
    wpAny (model PR w) (A.deeper (envOfC "law" (lawFn w).2 s.heap.objs.size fa ccd)) (execs (lawFn w).1 (envOfC "law" (lawFn w).2 s.heap.objs.size fa ccd)) (Ended s) NE { s with heap := h₁, toks := tk } :=
  law_walk C R ha ia lx F hm N hoc fun h' tk' m' F' => ⟨rfl, h', tk', m', rfl, F'⟩
end Mine
end
section
open PySem PySem.W PyProof.Rows
set_option maxRecDepth 100000
set_option maxHeartbeats 8000000
namespace Mine
noncomputable abbrev qGo := @PySem.W.Fast.tw10295753902157049106
noncomputable abbrev qRun := @PySem.W.Fast.tw10110043849684766642
noncomputable abbrev qTab := PySem.W.Fast.tw14364793385576792824
theorem go_eq : @segGoT = @qGo := PySem.W.Fast.te10295753902157049106
theorem run_eq : @segRunT = @qRun := PySem.W.Fast.te10110043849684766642
theorem tab_eq : treeTable = qTab := PySem.W.Fast.te14364793385576792824
noncomputable abbrev qP : Program := PySem.Challenge.pw_ny0026_01
def z0 : Pos := { line := 0, col := 0, endLine := 0, endCol := 0 }
noncomputable def eM : Env := { scope := qP.main.scope, locals := mainNs, globals := mainNs, cells := [], code := .ref 13, frame := some 14 }
noncomputable def cM : Code := Code.body (behindTheImports qP) eM
noncomputable def th (i n : Nat) (ps : Pos) : Thread := piecesOf ((qP.main.body.drop i).take n) eM cM ps [topFrame z0]
noncomputable def stS (tr : Params → BT) (n toks : Nat) (w : World) (os : OsState) : SharedT := { tree := tr w.params, n := n, life := {}, gens := #[], drawn := {}, toks := toks, os := os }
noncomputable def wf (w : World) (row : String) (b : Bool) : World := { w with params := { w.params with followText := fun r => @ite Bool (r = row) (PySem.W.Fast.strDec r row) b (w.params.followText r) } }
def pA : Pos := { line := 3, col := 0, endLine := 12, endCol := 23 }
def pB : Pos := { line := 13, col := 0, endLine := 13, endCol := 11 }
theorem seg1 (w : World) (os : OsState) : qRun qTab qP w 11 (some (.ref 6)) 1 50 (stS trpre 15 187 w os) (th 0 3 z0) = some (.next, stS trA 22 200 w os, cM, pA) := by kernel_rfl
def fg (n : Nat) : Nat := [48, 49, 50, 51, 52, 53, 54, 55, 56, 57, 65, 66, 67, 68, 69, 70].getD n 0
def hx (i : Nat) : Value := .str ⟨#[61, fg (i / 16), fg (i % 16)]⟩ (206 + 4 * i)
noncomputable def o22 : Obj := { cls := .type "range", data := .fields #[.int 0 201, .int 256 200, .int 1 202] }
noncomputable def o23 (k : Nat) : Obj := { cls := .type "range_iterator", data := .fields #[.int k 0, .int ((256 - k : Nat) : Int) 0, .int 1 0] }
noncomputable def o24 (k : Nat) : Obj := { cls := .type "list", data := .seq ((List.range k).map hx).toArray k }
noncomputable def o25 (P : Params) (k : Nat) : Obj := { cls := .type "dict", data := .dict #[{ hash := PyData.keyHash P (Str.ofString "c"), key := .str (Str.ofString "c") 204, val := .int (((k - 1 : Nat)) : Int) (199 + 4 * k) }] 1 }
noncomputable def cS (w : World) (os : OsState) (k : Nat) : SharedT := stS (fun P => tr26 P o22 (o23 k) (o24 k) (o25 P k)) 26 (203 + 4 * k) w os
noncomputable def w1 : World := aWorld 1
noncomputable def cTh : Thread := ((qGo qTab qP w1 11 (some (.ref 6)) 1 78 (stS trA 22 200 w1 default) (th 3 1 pA)).getD (stS trA 22 200 w1 default, th 3 1 pA)).2
theorem first_tt (w : World) (os : OsState) : qGo qTab qP (wf (wf w "comprehension-iter-twice" true) "special-get-raises" true) 11 (some (.ref 6)) 1 78 (stS trA 22 200 w os) (th 3 1 pA) = some (cS w os 1, cTh) := by kernel_rfl
theorem first_tf (w : World) (os : OsState) : qGo qTab qP (wf (wf w "comprehension-iter-twice" true) "special-get-raises" false) 11 (some (.ref 6)) 1 78 (stS trA 22 200 w os) (th 3 1 pA) = some (cS w os 1, cTh) := by kernel_rfl
theorem first_ft (w : World) (os : OsState) : qGo qTab qP (wf (wf w "comprehension-iter-twice" false) "special-get-raises" true) 11 (some (.ref 6)) 1 88 (stS trA 22 200 w os) (th 3 1 pA) = some (cS w os 1, cTh) := by kernel_rfl
theorem first_ff (w : World) (os : OsState) : qGo qTab qP (wf (wf w "comprehension-iter-twice" false) "special-get-raises" false) 11 (some (.ref 6)) 1 88 (stS trA 22 200 w os) (th 3 1 pA) = some (cS w os 1, cTh) := by kernel_rfl
theorem blk1 (w : World) (os : OsState) : qGo qTab qP w 11 (some (.ref 6)) 1 1887 (cS w os 1) cTh = some (cS w os 52, cTh) := by kernel_rfl
theorem blk52 (w : World) (os : OsState) : qGo qTab qP w 11 (some (.ref 6)) 1 1887 (cS w os 52) cTh = some (cS w os 103, cTh) := by kernel_rfl
theorem blk103 (w : World) (os : OsState) : qGo qTab qP w 11 (some (.ref 6)) 1 1887 (cS w os 103) cTh = some (cS w os 154, cTh) := by kernel_rfl
theorem blk154 (w : World) (os : OsState) : qGo qTab qP w 11 (some (.ref 6)) 1 1887 (cS w os 154) cTh = some (cS w os 205, cTh) := by kernel_rfl
theorem blk205 (w : World) (os : OsState) : qGo qTab qP w 11 (some (.ref 6)) 1 1887 (cS w os 205) cTh = some (cS w os 256, cTh) := by kernel_rfl
theorem last_t (w : World) (os : OsState) : qRun qTab qP (wf w "special-get-raises" true) 11 (some (.ref 6)) 1 29 (cS w os 256) cTh = some (.next, stS trB 28 1228 w os, cM, pB) := by kernel_rfl
theorem last_f (w : World) (os : OsState) : qRun qTab qP (wf w "special-get-raises" false) 11 (some (.ref 6)) 1 29 (cS w os 256) cTh = some (.next, stS trB 28 1228 w os, cM, pB) := by kernel_rfl
def pC : Pos := { line := 20, col := 0, endLine := 20, endCol := 8 }
theorem segC (w : World) (os : OsState) : qRun qTab qP w 11 (some (.ref 6)) 1 109 (stS trB 28 1228 w os) (th 4 7 pB) = some (.next, stS trC 32 1240 w os, cM, pC) := by kernel_rfl
def pD : Pos := { line := 21, col := 9, endLine := 21, endCol := 74 }
def pE : Pos := { line := 23, col := 0, endLine := 23, endCol := 28 }
def pF : Pos := { line := 24, col := 9, endLine := 24, endCol := 110 }
def pG : Pos := { line := 69, col := 0, endLine := 83, endCol := 15 }
def putAll (t0 : Nat) : List Nat → Nat → List Value → List Value
  | [], _, l => l
  | b :: bs, i, l => putAll t0 bs (i + 1) (l.set b (.str ⟨#[b]⟩ (t0 + 3 * i)))
noncomputable def lsO (bs : List Nat) (t0 k : Nat) : Obj := { cls := .type "list", data := .seq (putAll t0 (bs.take (k + 1)) 0 ((List.range 256).map hx)).toArray }
noncomputable def itO (bs : Array UInt8) (t k : Nat) : Obj := { cls := .type "bytes_iterator", data := .fields #[.bytes bs t, .int ((k + 1 : Nat) : Int) 0] }
noncomputable def lS1 (w : World) (os : OsState) (k : Nat) : SharedT := stS (fun P => tr33 P (g19 P ((bn1.getD k 0 : Nat) : Int) (1247 + 3 * k)) (lsO bn1 1249 k) (itO by1 1246 k)) 33 (1250 + 3 * k) w os
noncomputable def lS2 (w : World) (os : OsState) (k : Nat) : SharedT := stS (fun P => tr36 P (g19 P ((bn2.getD k 0 : Nat) : Int) (1452 + 3 * k)) (lsO bn2 1454 k) (itO by2 1451 k)) 36 (1455 + 3 * k) w os
noncomputable def lT1 : Thread := ((qGo qTab qP w1 11 (some (.ref 6)) 1 88 (stS trC 32 1240 w1 default) (th 11 1 pC)).getD (stS trA 22 200 w1 default, th 11 1 pC)).2
noncomputable def lT2 : Thread := ((qGo qTab qP w1 11 (some (.ref 6)) 1 54 (stS trE 35 1451 w1 default) (th 13 1 pE)).getD (stS trA 22 200 w1 default, th 13 1 pE)).2
theorem f1_t (w : World) (os : OsState) : qGo qTab qP (wf w "special-get-raises" true) 11 (some (.ref 6)) 1 88 (stS trC 32 1240 w os) (th 11 1 pC) = some (lS1 w os 0, lT1) := by kernel_rfl
theorem f2_t (w : World) (os : OsState) : qGo qTab qP (wf w "special-get-raises" true) 11 (some (.ref 6)) 1 54 (stS trE 35 1451 w os) (th 13 1 pE) = some (lS2 w os 0, lT2) := by kernel_rfl
theorem f1_f (w : World) (os : OsState) : qGo qTab qP (wf w "special-get-raises" false) 11 (some (.ref 6)) 1 88 (stS trC 32 1240 w os) (th 11 1 pC) = some (lS1 w os 0, lT1) := by kernel_rfl
theorem f2_f (w : World) (os : OsState) : qGo qTab qP (wf w "special-get-raises" false) 11 (some (.ref 6)) 1 54 (stS trE 35 1451 w os) (th 13 1 pE) = some (lS2 w os 0, lT2) := by kernel_rfl
theorem b1_0 (w : World) (os : OsState) : qGo qTab qP w 11 (some (.ref 6)) 1 1485 (lS1 w os 0) lT1 = some (lS1 w os 33, lT1) := by kernel_rfl
theorem b1_33 (w : World) (os : OsState) : qGo qTab qP w 11 (some (.ref 6)) 1 1485 (lS1 w os 33) lT1 = some (lS1 w os 66, lT1) := by kernel_rfl
theorem b2_0 (w : World) (os : OsState) : qGo qTab qP w 11 (some (.ref 6)) 1 2115 (lS2 w os 0) lT2 = some (lS2 w os 47, lT2) := by kernel_rfl
theorem b2_47 (w : World) (os : OsState) : qGo qTab qP w 11 (some (.ref 6)) 1 2115 (lS2 w os 47) lT2 = some (lS2 w os 94, lT2) := by kernel_rfl
theorem e1_t (w : World) (os : OsState) : qRun qTab qP (wf w "special-get-raises" true) 11 (some (.ref 6)) 1 19 (lS1 w os 66) lT1 = some (.next, stS trD 35 1448 w os, cM, pD) := by kernel_rfl
theorem e2_t (w : World) (os : OsState) : qRun qTab qP (wf w "special-get-raises" true) 11 (some (.ref 6)) 1 19 (lS2 w os 94) lT2 = some (.next, stS trF 38 1737 w os, cM, pF) := by kernel_rfl
theorem segG_t (w : World) (os : OsState) : qRun qTab qP (wf w "special-get-raises" true) 11 (some (.ref 6)) 1 349 (stS trF 38 1737 w os) (th 14 10 pF) = some (.next, stS trG 84 1805 w os, cM, pG) := by kernel_rfl
theorem e1_f (w : World) (os : OsState) : qRun qTab qP (wf w "special-get-raises" false) 11 (some (.ref 6)) 1 19 (lS1 w os 66) lT1 = some (.next, stS trD 35 1448 w os, cM, pD) := by kernel_rfl
theorem e2_f (w : World) (os : OsState) : qRun qTab qP (wf w "special-get-raises" false) 11 (some (.ref 6)) 1 19 (lS2 w os 94) lT2 = some (.next, stS trF 38 1737 w os, cM, pF) := by kernel_rfl
theorem segG_f (w : World) (os : OsState) : qRun qTab qP (wf w "special-get-raises" false) 11 (some (.ref 6)) 1 349 (stS trF 38 1737 w os) (th 14 10 pF) = some (.next, stS trG 84 1805 w os, cM, pG) := by kernel_rfl
theorem segE (w : World) (os : OsState) : qRun qTab qP w 11 (some (.ref 6)) 1 25 (stS trD 35 1448 w os) (th 12 1 pD) = some (.next, stS trE 35 1451 w os, cM, pE) := by kernel_rfl
end Mine
end
section
open PySem PySem.W PyProof.Rows
set_option maxRecDepth 100000
set_option maxHeartbeats 8000000
namespace Mine
theorem last39_t (w : World) (os : OsState) : qRun qTab qP (wf w "special-get-raises" true) 11 (some (.ref 6)) 1 39 (cS w os 256) cTh = some (.next, stS trB 28 1228 w os, cM, pB) := by kernel_rfl
theorem last39_f (w : World) (os : OsState) : qRun qTab qP (wf w "special-get-raises" false) 11 (some (.ref 6)) 1 39 (cS w os 256) cTh = some (.next, stS trB 28 1228 w os, cM, pB) := by kernel_rfl
def an : Option Value := some (.ref 6)
section
variable {w : World} {n : Nat} {s s' : SharedT} {t t' : Thread} {c : Code} {p : Pos}
theorem goT (h : qGo qTab qP w 11 (some (.ref 6)) 1 n s t = some (s', t')) : segGo treeTable qP w 11 an 1 n s.abs t = some (s'.abs, t') := by
  refine segGo_of ?_
  rw [go_eq, tab_eq]; exact h
theorem runT (h : qRun qTab qP w 11 (some (.ref 6)) 1 n s t = some (.next, s', c, p)) : segRun treeTable qP w 11 an 1 n s.abs t = some (.next, s'.abs, c, p) := by
  refine segRun_of ?_
  rw [run_eq, tab_eq]; exact h
end
theorem wf_self (w : World) (row : String) : wf w row (w.params.followText row) = w := by
  obtain ⟨draws, params⟩ := w
  have h : (fun r => @ite Bool (r = row) (PySem.W.Fast.strDec r row) (params.followText row) (params.followText r)) = params.followText := by
    funext r
    by_cases e : r = row
    · rw [if_pos e, e]
    · rw [if_neg e]
  unfold wf
  dsimp only
  rw [h]
theorem way1 {P : World → Prop} (row : String) (ht : ∀ w, P (wf w row true)) (hf : ∀ w, P (wf w row false)) (w : World) : P w := by
  have h : ∀ b, P (wf w row b) := fun b => by cases b; exact hf w; exact ht w
  have := h (w.params.followText row)
  rwa [wf_self] at this
/-- the comprehension -/
theorem r3 (w : World) (os : OsState) : segRun treeTable qP w 11 an 1 9552 (stS trA 22 200 w os).abs (th 3 1 pA) = some (.next, (stS trB 28 1228 w os).abs, cM, pB) := by
  have mid : ∀ n N, n + (1887 + (1887 + (1887 + (1887 + (1887 + N))))) = 9552 → segGo treeTable qP w 11 an 1 n (stS trA 22 200 w os).abs (th 3 1 pA) = some ((cS w os 1).abs, cTh) →
      segRun treeTable qP w 11 an 1 N (cS w os 256).abs cTh = some (.next, (stS trB 28 1228 w os).abs, cM, pB) → segRun treeTable qP w 11 an 1 9552 (stS trA 22 200 w os).abs (th 3 1 pA) = some (.next, (stS trB 28 1228 w os).abs, cM, pB) := by
    intro n N e h1 h2
    have h := seg_go h1 (seg_go (goT (blk1 w os)) (seg_go (goT (blk52 w os)) (seg_go (goT (blk103 w os)) (seg_go (goT (blk154 w os)) (seg_go (goT (blk205 w os)) h2)))))
    rw [e] at h; exact h
  have w2 := wf_self w "comprehension-iter-twice"
  have w3 := wf_self w "special-get-raises"
  cases ha : w.params.followText "comprehension-iter-twice" <;> cases hb : w.params.followText "special-get-raises" <;> rw [ha] at w2 <;> rw [hb] at w3
  · have f := goT (first_ff w os); rw [w2, w3] at f
    have l := runT (last_f w os); rw [w3] at l
    exact mid 88 29 rfl f l
  · have f := goT (first_ft w os); rw [w2, w3] at f
    have l := runT (last_t w os); rw [w3] at l
    exact mid 88 29 rfl f l
  · have f := goT (first_tf w os); rw [w2, w3] at f
    have l := runT (last39_f w os); rw [w3] at l
    exact mid 78 39 rfl f l
  · have f := goT (first_tt w os); rw [w2, w3] at f
    have l := runT (last39_t w os); rw [w3] at l
    exact mid 78 39 rfl f l
theorem r11 (w : World) (os : OsState) : segRun treeTable qP w 11 an 1 3077 (stS trC 32 1240 w os).abs (th 11 1 pC) = some (.next, (stS trD 35 1448 w os).abs, cM, pD) := by
  have mid : segGo treeTable qP w 11 an 1 88 (stS trC 32 1240 w os).abs (th 11 1 pC) = some ((lS1 w os 0).abs, lT1) → segRun treeTable qP w 11 an 1 19 (lS1 w os 66).abs lT1 = some (.next, (stS trD 35 1448 w os).abs, cM, pD) → _ :=
    fun h1 h2 => seg_go h1 (seg_go (goT (b1_0 w os)) (seg_go (goT (b1_33 w os)) h2))
  have w3 := wf_self w "special-get-raises"
  cases hb : w.params.followText "special-get-raises" <;> rw [hb] at w3
  · have f := goT (f1_f w os); rw [w3] at f
    have l := runT (e1_f w os); rw [w3] at l
    exact mid f l
  · have f := goT (f1_t w os); rw [w3] at f
    have l := runT (e1_t w os); rw [w3] at l
    exact mid f l
theorem r13 (w : World) (os : OsState) : segRun treeTable qP w 11 an 1 4303 (stS trE 35 1451 w os).abs (th 13 1 pE) = some (.next, (stS trF 38 1737 w os).abs, cM, pF) := by
  have mid : segGo treeTable qP w 11 an 1 54 (stS trE 35 1451 w os).abs (th 13 1 pE) = some ((lS2 w os 0).abs, lT2) → segRun treeTable qP w 11 an 1 19 (lS2 w os 94).abs lT2 = some (.next, (stS trF 38 1737 w os).abs, cM, pF) → _ :=
    fun h1 h2 => seg_go h1 (seg_go (goT (b2_0 w os)) (seg_go (goT (b2_47 w os)) h2))
  have w3 := wf_self w "special-get-raises"
  cases hb : w.params.followText "special-get-raises" <;> rw [hb] at w3
  · have f := goT (f2_f w os); rw [w3] at f
    have l := runT (e2_f w os); rw [w3] at l
    exact mid f l
  · have f := goT (f2_t w os); rw [w3] at f
    have l := runT (e2_t w os); rw [w3] at l
    exact mid f l
theorem r14 (w : World) (os : OsState) : segRun treeTable qP w 11 an 1 349 (stS trF 38 1737 w os).abs (th 14 10 pF) = some (.next, (stS trG 84 1805 w os).abs, cM, pG) := by
  have w3 := wf_self w "special-get-raises"
  cases hb : w.params.followText "special-get-raises" <;> rw [hb] at w3
  · have l := runT (segG_f w os); rw [w3] at l; exact l
  · have l := runT (segG_t w os); rw [w3] at l; exact l
end Mine
end
section
open PySem PySem.W PyProof.Rows
set_option maxRecDepth 100000
set_option maxHeartbeats 8000000
namespace Mine
noncomputable abbrev qDen := @PySem.W.Fast.tw11892475500146522536
noncomputable abbrev qTGo := @PySem.W.Fast.tw15667345088766844465
noncomputable abbrev qTRun := @PySem.W.Fast.tw14082659384304107361
noncomputable abbrev qSeg := @PySem.W.Fast.tw14374325043358763698
theorem den_eq : @denote = @qDen := PySem.W.Fast.te11892475500146522536
theorem tgo_eq : @topGo = @qTGo := PySem.W.Fast.te15667345088766844465
theorem trun_eq : @topRun = @qTRun := PySem.W.Fast.te14082659384304107361
theorem seg_eq : @segRun = @qSeg := PySem.W.Fast.te14374325043358763698
theorem preQ (w : World) (os : OsState) : qTGo qTab qP w 11 (some (.ref 6)) 12 ⟨boot_heap w.params, Array.mk [], boot_drawn, boot_toks, os⟩ (topStub qP) = some ((stS trpre 15 187 w os).abs, ⟨qDen qTab cM, cM, z0, [topFrame z0]⟩) := by kernel_rfl
theorem pre_ (w : World) (os : OsState) : topGo treeTable qP w 11 an 12 ⟨boot_heap w.params, Array.mk [], boot_drawn, boot_toks, os⟩ (topStub qP) = some ((stS trpre 15 187 w os).abs, ⟨denote treeTable cM, cM, z0, [topFrame z0]⟩) := by
  rw [tgo_eq, den_eq, tab_eq]; exact preQ w os
theorem blockQ (w : World) (os : OsState) : qSeg qTab qP w 11 (some (.ref 6)) 1 1 (stS trpre 15 187 w os).abs (blockOf (behindTheImports qP) eM cM z0 [topFrame z0]) = some (.next, (stS trpre 15 187 w os).abs, cM, z0) := by kernel_rfl
theorem block_ (w : World) (os : OsState) : segRun treeTable qP w 11 an 1 1 (stS trpre 15 187 w os).abs (blockOf (behindTheImports qP) eM cM z0 [topFrame z0]) = some (.next, (stS trpre 15 187 w os).abs, cM, z0) := by
  rw [seg_eq, tab_eq]; exact blockQ w os
theorem finQ (w : World) (os : OsState) : qTRun qTab qP w 11 (some (.ref 6)) 2 (stS trG 84 1805 w os).abs ⟨doneF .next, cM, pG, [topFrame z0]⟩ = some (stS trG 84 1805 w os).abs := by kernel_rfl
theorem fin_ (w : World) (os : OsState) : topRun treeTable qP w 11 an 2 (stS trG 84 1805 w os).abs ⟨doneF .next, cM, pG, [topFrame z0]⟩ = some (stS trG 84 1805 w os).abs := by
  rw [trun_eq, tab_eq]; exact finQ w os
noncomputable def pc (i n : Nat) : List Stmt := (qP.main.body.drop i).take n
theorem split_ : behindTheImports qP = pc 0 3 ++ (pc 3 1 ++ (pc 4 7 ++ (pc 11 1 ++ (pc 12 1 ++ (pc 13 1 ++ (pc 14 10 ++ [])))))) := by kernel_rfl
def qM : Nat := 12 + (1 + (50 + (9552 + (109 + (3077 + (25 + (4303 + (349 + 2))))))))
theorem run_ (w : World) (os : OsState) : topRun treeTable qP w 11 an qM ⟨boot_heap w.params, Array.mk [], boot_drawn, boot_toks, os⟩ (topStub qP) = some ⟨absHeap (trG w.params) 84 {}, #[], {}, 1805, os⟩ := by
  refine go_top (pre_ w os) ?_
  refine piece_block (block_ w os) ?_
  rw [split_]
  refine piece_app (l := pc 0 3) (runT (seg1 w os)) ?_
  refine piece_app (l := pc 3 1) (r3 w os) ?_
  refine piece_app (l := pc 4 7) (runT (segC w os)) ?_
  refine piece_app (l := pc 11 1) (r11 w os) ?_
  refine piece_app (l := pc 12 1) (runT (segE w os)) ?_
  refine piece_app (l := pc 13 1) (r13 w os) ?_
  refine piece_app (l := pc 14 10) (r14 w os) ?_
  exact piece_nil (fin_ w os)
end Mine
end
section
open PySem PySem.W PyProof.Rows
set_option maxRecDepth 100000
set_option maxHeartbeats 8000000
namespace Mine
noncomputable def qView : Program := { qP with main := { qP.main with body := [stA 1, stA 2, stA 3, stA 4, stA 5, stA 6, stA 7, stA 8, stA 9, stA 15, stA 19, stA 20, stA 21, stA 22, stA 23] } }
def loo : List Str := ["_QUOPRI_MAP", "_QUOPRI_HEADER_MAP", "_QUOPRI_BODY_MAP", "ascii_letters", "header_encode", "_QUOPRI_BODY_ENCODE_MAP"]
def lvv : List (Str × WData) := [("ascii_letters", .str ⟨#[97, 98, 99, 100, 101, 102, 103, 104, 105, 106, 107, 108, 109, 110, 111, 112, 113, 114, 115, 116, 117, 118, 119, 120, 121, 122, 65, 66, 67, 68, 69, 70, 71, 72, 73, 74, 75, 76, 77, 78, 79, 80, 81, 82, 83, 84, 85, 86, 87, 88, 89, 90]⟩)]
def kAs : List Addr := [2, 3, 6, 15, 17, 18, 20, 21, 24, 29, 31, 38, 39, 41, 42, 44, 45, 47, 51, 53, 54, 56, 57, 58, 60, 61, 63, 64, 65, 67, 68, 70, 71, 72, 74, 75, 77, 78, 79, 82, 83]
noncomputable def kH : Hook := kHook kfrag kAs (fun _ => by kernel_rfl)
noncomputable abbrev qR : RowW := OpenRow.toRowW PySem.Challenge.rw_ny0026_01.row
noncomputable def qXt : Shared → Bool := fun s => xlAt qView lvv s && recOk (RowW.records qR) s
noncomputable abbrev qSeen := @PySem.W.Fast.tw4187177175401517315
theorem seen_eq : @openSeen = @qSeen := PySem.W.Fast.te4187177175401517315
noncomputable def hG (P : Params) : Heap := absHeap (trG P) 84 {}
theorem k1 (w : World) : (fun os => (staticsOk [] (boot_heap w.params) (hG w.params) && namesBound qP (hG w.params) && gensDone ⟨hG w.params, #[], {}, 1805, os⟩ && laidKept (boot_heap w.params) (hG w.params))) = fun (_ : OsState) => true := by kernel_rfl
theorem k2 (w : World) : (fun os : OsState => (kH.obs ⟨hG w.params, #[], {}, 1805, os⟩)) = fun _ => kH.val w := by kernel_rfl
theorem sz (w : World) : ((boot_heap w.params).isNs mainGlobals && (Array.mk [] : Array GenState).size == 0, (boot_heap w.params).objs.size, (boot_heap w.params).nsMap mainGlobals "__annotations__") = (true, 11, an) := by kernel_rfl
theorem fen (s : Shared) : fenceModules? qP s = some s := by kernel_rfl
theorem k3 (w : World) : (fun os => (qSeen qView loo [] qXt true ⟨hG w.params, #[], {}, 1805, os⟩)) = fun (_ : OsState) => openGood qView loo := by kernel_rfl
theorem open_ (w : World) : (fencedOpening treeTable qP w 40000).map (fun s => (s.heap, s.gens, s.drawn, s.toks)) = some (boot_heap w.params, Array.mk [], boot_drawn, boot_toks) :=
  open_cut (M := 600) (He := boot_heap) (ge := Array.mk []) (de := boot_drawn) (ke := boot_toks) (fun w => by kernel_rfl) (by decide) (fun w => by funext os; rw [fen]; rfl) w
theorem left_ : LeftO qP qView loo qXt kH.obs kH.val 40000 true := by
  refine LeftO.of_pieces (M := qM) (m₀ := 11) (ann := an) (H₀ := boot_heap) (H₁ := hG) (gs₀ := Array.mk []) (gs₁ := #[]) (d₀ := boot_drawn) (d₁ := {}) (k₀ := boot_toks) (k₁ := 1805) open_ sz run_ (by decide) ?_
  intro w
  have h1 := k1 w
  have h2 := k2 w
  have h3 := k3 w
  rw [← seen_eq] at h3
  funext os
  have h1' := congrFun h1 os
  have h2' := congrFun h2 os
  have h3' := congrFun h3 os
  exact Prod.ext h1' (Prod.ext h3' h2')
end Mine
end
section
open PySem PySem.W PyProof.Rows
set_option maxRecDepth 100000 in
set_option maxHeartbeats 8000000 in
theorem PySem.Challenge.cw_ny0026_01_holds : PySem.Challenge.rw_ny0026_01.Holds := by
  w_on
  o_law
  refine holds_open (q := Mine.qView) (loose := Mine.loo) (Xt := Mine.qXt) (XP := XL Mine.qView Mine.lvv) (Yf := Hook.obs Mine.kH) (Ya := Hook.val Mine.kH) (YP := Hook.says Mine.kH) (N := 40000) Mine.left_ (Hook.of Mine.kH) (Hook.keeps Mine.kH) (fun s e => xl_of s (Bool.and_eq_true_iff.mp e).1) XL.keeps (by rfl) (by rfl) (by rfl) (fun s e => recFacts_of (Bool.and_eq_true_iff.mp e).2) (by rfl) (by first | assumption | decide +kernel) (by decide +kernel) ⟨rfl, rfl, rfl, rfl, rfl, by decide +kernel⟩ ?hw ?hc
  case hw => w_witness2
  case hc =>
    intro w s₀ s₁ mg mb G Y fa o pm cd doc dV kV ho hd hcd hD hmg hg args vals as hpre hlay hrd hwl hlo
    have KX := kIn_of Y
    k_behind G ho hd hcd hD hmg hpre hlay hrd hwl hlo cd
    rename (Mine.kfrag _).In _ => KX
    rename Top _ _ _ _ _ _ => T
    rename Heap.IsList _ _ _ => hL
    rename IntsAre _ _ => hI
    rename ¬ _ < _ => hcond
    rename Fr _ _ _ _ => F
    rename News _ _ _ _ => N0
    rename _ = Data.cell _ => hoc
    rename Shared.gens _ = _ => hg
    refine wpAny_mono (Mine.law_end ⟨KX, T.g, T.b, T.nolimit, T.builtins⟩ ⟨rfl, by decide, by decide⟩ hL hI (by omega) F rfl N0 hoc) ?_ (fun _ _ x => x.elim)
    rintro f s' ⟨rfl, h', tk', m', rfl, F'⟩
    exact goodW_bool F' hg (fun _ => rfl) (by with_unfolding_all rfl)
end
